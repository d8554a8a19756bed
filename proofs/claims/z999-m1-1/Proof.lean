import JvmDerived
import JvmDerived.Pilot.@@N@@Statement
import JvmDerived.Pilot.@@N@@Code
set_option linter.unusedVariables false
set_option linter.unusedSimpArgs false
namespace Jvm.Pilot.@@N@@
open Jvm Jvm.ClassFile Sem Op Lib Jvm.Free Jvm.Stand Jvm.LawKit Jvm.RoadKit Bundle Jvm.Pilot.@@N@@.Jvm.D
def G (p : Program) (l : Launch) (e : Env) (R : Room) (s : State) (m : MethodId) (args : Array Value) (below : List Frame) (meth : Method) (c : Code) (n0 : Nat) (Q : Option Value → Heap → Prop) (h : Heap) (k n : Nat) (pc : Nat) (Ls : Array Slot) (st : List Value) : Prop :=
  ∀ T locs cells slots, Stand p l e R s m args below meth c T locs cells slots → Fr n0 locs → T.heap = h → cells ≤ k → slots ≤ n →
    ∃ s₂ o, Steps p.tables e below (T.setTop (mkF m pc Ls st)) s₂ ∧ s₂.status = .running ∧ Ended s₂ below o ∧ ∃ v L, o = .returned v ∧ (Q v s₂.heap ∧ Fr n0 L) ∧ FrameEnd s o s₂ L R.cells R.slots
def Cx (Z : State) (p : Program) (s : State) (m : MethodId) (meth : Method) (c : Code) (R : Room) (k n : Nat) (own nm : String) (code : ByteArray) (maxL : Nat) (ret : Option FieldType) : Prop :=
  p.tables.exec = Jvm.exec ∧ Z.Warmed39 s.vm ∧ s.vm.findClass own = some m.cls ∧ c.code = code ∧ c.maxLocals = maxL ∧ meth.sig.returnType = ret ∧ meth.name = nm ∧ meth.locks = false
def Dc (code : ByteArray) (pc : Nat) (i : Instr) (len pc' : Nat) : Prop := decode code pc = .ok (i, len) ∧ pc + len = pc'
def Bi (code : ByteArray) (pc : Nat) (f : Int → Instr) (pcY pcN : Nat) : Prop := ∃ o, decode code pc = .ok (f o, 3) ∧ 0 ≤ (pc : Int) + o ∧ ((pc : Int) + o).toNat = pcY ∧ pc + 3 = pcN
def Met (l : Launch) (Z : State) (y : MethodName) (bytes : ByteArray) (maxL : Nat) (ret : Option FieldType) (rm : Room) (as : Array Value) (h0 : Heap) (Q : Option Value → Heap → Prop) : Prop :=
  ∀ ws, MetFree l y (head1 (Jvm.Cond.code y bytes maxL ret :: ws) rm) (fun a U => a = as ∧ Z.Warmed39 U.vm ∧ U.heap = h0) (fun _ _ _ _ _ => True) (fun _ U o U' => ∃ v L, o = .returned v ∧ (Q v U'.heap ∧ Fr Z.heap.size L) ∧ FrameEnd U o U' L rm.cells rm.slots)

def Arx (Z : State) (h : Heap) (a : Addr) (k : ClassId) (ty : FieldType) (z : Int32) (vs : List Value) (dv : Value) (ad : String) : Prop := Arv Z h a k ty z vs dv ∧ Exa Z h a ad
section ArxS
variable {Z : State} {h h' : Heap} {a x : Addr} {k : ClassId} {ty : FieldType} {z : Int32} {vs vs' : List Value} {dv w : Value} {ad : String} {sl : Nat} {ws : List Addr}
theorem Arx.ext (F : Arx Z h a k ty z vs dv ad) (E : Ext h h') : Arx Z h' a k ty z vs dv ad := ⟨F.1.ext E, F.2.ext E⟩
theorem Arx.other (F : Arx Z h a k ty z vs dv ad) (W : Wr h h' x sl w) (q : a ≠ x) : Arx Z h' a k ty z vs dv ad := ⟨F.1.other W q, F.2.wr W⟩
theorem Arx.keep (F : Arx Z h a k ty z vs dv ad) (K : Keep h h' ws) (q : a ∉ ws) : Arx Z h' a k ty z vs dv ad := ⟨F.1.keep K q, F.2.keep K⟩
theorem Arx.lt (F : Arx Z h a k ty z vs dv ad) : a < h.size := F.1.lt
theorem Arx.pad (F : Arx Z h a k ty z vs dv ad) (q : ∀ i, vs'.getD i dv = vs.getD i dv) : Arx Z h a k ty z vs' dv ad := ⟨F.1.pad q, F.2⟩
theorem sto_of {C : String} {y : Addr} (A : Arx Z h a k ty z vs dv ad) (O : Ovr Z k C) (I : Ins Z h y C true) : Sto Z h a (.ref y) := by
  obtain ⟨⟨c, Ar, q, -⟩, -⟩ := A; exact Sto.ofV Ar q O I
theorem sto_ofA {C : String} {y : Addr} {t : FieldType} (A : Arx Z h a k ty z vs dv ad) (O : OvrA Z k t C) (I : Ins Z h y C true) : Sto Z h a (.ref y) := by
  obtain ⟨⟨c, Ar, q, -⟩, -⟩ := A; exact Sto.ofVA Ar q O I
end ArxS
section Walk
variable {p : Program} {l : Launch} {e : Env} {R : Room} {s : State} {m : MethodId} {args : Array Value} {below : List Frame} {meth : Method} {c : Code} {Z : State} {a0 : Array Value} {k n : Nat} {own nm : String} {code : ByteArray} {maxL : Nat} {ret : Option FieldType} {n0 : Nat} {Q : Option Value → Heap → Prop} {h : Heap} {pc pc' pcY pcN : Nat} {Ls : Array Slot} {st rest : List Value}
theorem G.mono {k' n' : Nat} (H : G p l e R s m args below meth c Z.heap.size Q h k n pc Ls st) (hk : k' ≤ k) (hn : n' ≤ n) : G p l e R s m args below meth c Z.heap.size Q h k' n' pc Ls st :=
  fun T locs cells slots X N eT a b => H T locs cells slots X N eT (Nat.le_trans a hk) (Nat.le_trans b hn)
theorem G.cast {st' : List Value} (H : G p l e R s m args below meth c Z.heap.size Q h k n pc Ls st') (q : st = st') : G p l e R s m args below meth c Z.heap.size Q h k n pc Ls st := q ▸ H
theorem G.post {Q' : Option Value → Heap → Prop} (H : G p l e R s m args below meth c Z.heap.size Q h k n pc Ls st) (q : ∀ v h, Q v h → Q' v h) : G p l e R s m args below meth c Z.heap.size Q' h k n pc Ls st :=
  fun T locs cells slots X N eT a b => by
    obtain ⟨s₂, o, h1, h2, h3, v, L, h4, ⟨h5, h6⟩, h7⟩ := H T locs cells slots X N eT a b
    exact ⟨s₂, o, h1, h2, h3, v, L, h4, ⟨q _ _ h5, h6⟩, h7⟩
theorem met_of {y : MethodName} {bytes : ByteArray} {rm : Room} {as : Array Value} {h0 : Heap} (pn : plainFor y = true) (ef : ∀ m, entryFrame m as maxL = mkF m 0 Ls [])
    (body : ∀ p e s m below meth c, Cx Z p s m meth c rm 0 0 y.cls y.name bytes maxL ret → G p l e rm s m as below meth c Z.heap.size Q h0 0 0 0 Ls []) : Met l Z y bytes maxL ret rm as h0 Q := by
  intro ws
  refine MetFree.of_bodySF pn hisR ?_
  intro p e s m args below meth c s₁ Bd hml0 hP hK
  obtain ⟨rfl, hZ, hh⟩ := hP
  have e0 : s₁.heap = h0 := by rw [← hh, Bd.state]; rfl
  have X0 : Stand p l e rm s m args below meth c s₁ [] 0 0 := Stand.of_body Bd
  rw [ef m]
  exact body p e s m below meth c ⟨Bd.exec, hZ, findClass_of_methodNamed Bd.named, Bd.bytes, hml0, Bd.returns, (name_of_methodNamed Bd.named Bd.method).1, BodyLoose.notSynchronized Bd⟩ s₁ [] 0 0 X0 (Fr.nil _) e0 (Nat.le_refl _) (Nat.le_refl _)
theorem g_iloadN {kx nx : Nat} (cx : Cx Z p s m meth c R kx nx own nm code maxL ret) {i : Fin 4} {v : Int32} (d : Dc code pc (.iload_n i) 1 pc') (hl : Ls[i.val]? = some (.val (.int v))) (H : G p l e R s m args below meth c Z.heap.size Q h k n pc' Ls (.int v :: st)) : G p l e R s m args below meth c Z.heap.size Q h k n pc Ls st := by
  obtain ⟨hx, hZ, hown, rfl, hml, hret, hnm, -⟩ := cx
  obtain ⟨d, rfl⟩ := d
  intro T locs cells slots X N eT hk hn
  obtain ⟨s₂, o, st2, r⟩ := H T locs cells slots X N eT hk hn
  exact ⟨s₂, o, Jvm.Free.XS.iloadN X.here hx rfl d hl st2, r⟩
theorem g_iload {kx nx : Nat} (cx : Cx Z p s m meth c R kx nx own nm code maxL ret) {i : Nat} {v : Int32} (d : Dc code pc (.iload i) 2 pc') (hl : Ls[i]? = some (.val (.int v))) (H : G p l e R s m args below meth c Z.heap.size Q h k n pc' Ls (.int v :: st)) : G p l e R s m args below meth c Z.heap.size Q h k n pc Ls st := by
  obtain ⟨hx, hZ, hown, rfl, hml, hret, hnm, -⟩ := cx
  obtain ⟨d, rfl⟩ := d
  intro T locs cells slots X N eT hk hn
  obtain ⟨s₂, o, st2, r⟩ := H T locs cells slots X N eT hk hn
  exact ⟨s₂, o, Jvm.Free.XS.iload X.here hx rfl d hl st2, r⟩
theorem g_istoreN {kx nx : Nat} (cx : Cx Z p s m meth c R kx nx own nm code maxL ret) {i : Fin 4} {v : Int32} {Ls' : Array Slot} (d : Dc code pc (.istore_n i) 1 pc') (hl : storeLocals Ls i.val (.int v) = some Ls') (H : G p l e R s m args below meth c Z.heap.size Q h k n pc' Ls' st) : G p l e R s m args below meth c Z.heap.size Q h k n pc Ls (.int v :: st) := by
  obtain ⟨hx, hZ, hown, rfl, hml, hret, hnm, -⟩ := cx
  obtain ⟨d, rfl⟩ := d
  intro T locs cells slots X N eT hk hn
  obtain ⟨s₂, o, st2, r⟩ := H T locs cells slots X N eT hk hn
  exact ⟨s₂, o, Jvm.Free.XS.istoreN X.here hx rfl d rfl hl st2, r⟩
theorem g_istore {kx nx : Nat} (cx : Cx Z p s m meth c R kx nx own nm code maxL ret) {i : Nat} {v : Int32} {Ls' : Array Slot} (d : Dc code pc (.istore i) 2 pc') (hl : storeLocals Ls i (.int v) = some Ls') (H : G p l e R s m args below meth c Z.heap.size Q h k n pc' Ls' st) : G p l e R s m args below meth c Z.heap.size Q h k n pc Ls (.int v :: st) := by
  obtain ⟨hx, hZ, hown, rfl, hml, hret, hnm, -⟩ := cx
  obtain ⟨d, rfl⟩ := d
  intro T locs cells slots X N eT hk hn
  obtain ⟨s₂, o, st2, r⟩ := H T locs cells slots X N eT hk hn
  exact ⟨s₂, o, Jvm.Free.XS.istore X.here hx rfl d rfl hl st2, r⟩
theorem g_lloadN {kx nx : Nat} (cx : Cx Z p s m meth c R kx nx own nm code maxL ret) {i : Fin 4} {v : Int64} (d : Dc code pc (.lload_n i) 1 pc') (hl : Ls[i.val]? = some (.val (.long v))) (H : G p l e R s m args below meth c Z.heap.size Q h k n pc' Ls (.long v :: st)) : G p l e R s m args below meth c Z.heap.size Q h k n pc Ls st := by
  obtain ⟨hx, hZ, hown, rfl, hml, hret, hnm, -⟩ := cx
  obtain ⟨d, rfl⟩ := d
  intro T locs cells slots X N eT hk hn
  obtain ⟨s₂, o, st2, r⟩ := H T locs cells slots X N eT hk hn
  exact ⟨s₂, o, Jvm.Free.XS.lloadN X.here hx rfl d hl st2, r⟩
theorem g_lload {kx nx : Nat} (cx : Cx Z p s m meth c R kx nx own nm code maxL ret) {i : Nat} {v : Int64} (d : Dc code pc (.lload i) 2 pc') (hl : Ls[i]? = some (.val (.long v))) (H : G p l e R s m args below meth c Z.heap.size Q h k n pc' Ls (.long v :: st)) : G p l e R s m args below meth c Z.heap.size Q h k n pc Ls st := by
  obtain ⟨hx, hZ, hown, rfl, hml, hret, hnm, -⟩ := cx
  obtain ⟨d, rfl⟩ := d
  intro T locs cells slots X N eT hk hn
  obtain ⟨s₂, o, st2, r⟩ := H T locs cells slots X N eT hk hn
  exact ⟨s₂, o, Jvm.Free.XS.lload X.here hx rfl d hl st2, r⟩
theorem g_lstoreN {kx nx : Nat} (cx : Cx Z p s m meth c R kx nx own nm code maxL ret) {i : Fin 4} {v : Int64} {Ls' : Array Slot} (d : Dc code pc (.lstore_n i) 1 pc') (hl : storeLocals Ls i.val (.long v) = some Ls') (H : G p l e R s m args below meth c Z.heap.size Q h k n pc' Ls' st) : G p l e R s m args below meth c Z.heap.size Q h k n pc Ls (.long v :: st) := by
  obtain ⟨hx, hZ, hown, rfl, hml, hret, hnm, -⟩ := cx
  obtain ⟨d, rfl⟩ := d
  intro T locs cells slots X N eT hk hn
  obtain ⟨s₂, o, st2, r⟩ := H T locs cells slots X N eT hk hn
  exact ⟨s₂, o, Jvm.Free.XS.lstoreN X.here hx rfl d rfl hl st2, r⟩
theorem g_lstore {kx nx : Nat} (cx : Cx Z p s m meth c R kx nx own nm code maxL ret) {i : Nat} {v : Int64} {Ls' : Array Slot} (d : Dc code pc (.lstore i) 2 pc') (hl : storeLocals Ls i (.long v) = some Ls') (H : G p l e R s m args below meth c Z.heap.size Q h k n pc' Ls' st) : G p l e R s m args below meth c Z.heap.size Q h k n pc Ls (.long v :: st) := by
  obtain ⟨hx, hZ, hown, rfl, hml, hret, hnm, -⟩ := cx
  obtain ⟨d, rfl⟩ := d
  intro T locs cells slots X N eT hk hn
  obtain ⟨s₂, o, st2, r⟩ := H T locs cells slots X N eT hk hn
  exact ⟨s₂, o, Jvm.Free.XS.lstore X.here hx rfl d rfl hl st2, r⟩
theorem g_aloadN {kx nx : Nat} (cx : Cx Z p s m meth c R kx nx own nm code maxL ret) {i : Fin 4} {v : Value} (d : Dc code pc (.aload_n i) 1 pc') (hl : Ls[i.val]? = some (.val v)) (hv : v.isRef = true) (H : G p l e R s m args below meth c Z.heap.size Q h k n pc' Ls (v :: st)) : G p l e R s m args below meth c Z.heap.size Q h k n pc Ls st := by
  obtain ⟨hx, hZ, hown, rfl, hml, hret, hnm, -⟩ := cx
  obtain ⟨d, rfl⟩ := d
  intro T locs cells slots X N eT hk hn
  obtain ⟨s₂, o, st2, r⟩ := H T locs cells slots X N eT hk hn
  exact ⟨s₂, o, Jvm.Free.XS.aloadN X.here hx rfl d hl hv st2, r⟩
theorem g_aload {kx nx : Nat} (cx : Cx Z p s m meth c R kx nx own nm code maxL ret) {i : Nat} {v : Value} (d : Dc code pc (.aload i) 2 pc') (hl : Ls[i]? = some (.val v)) (hv : v.isRef = true) (H : G p l e R s m args below meth c Z.heap.size Q h k n pc' Ls (v :: st)) : G p l e R s m args below meth c Z.heap.size Q h k n pc Ls st := by
  obtain ⟨hx, hZ, hown, rfl, hml, hret, hnm, -⟩ := cx
  obtain ⟨d, rfl⟩ := d
  intro T locs cells slots X N eT hk hn
  obtain ⟨s₂, o, st2, r⟩ := H T locs cells slots X N eT hk hn
  exact ⟨s₂, o, Jvm.Free.XS.aload X.here hx rfl d hl hv st2, r⟩
theorem g_astoreN {kx nx : Nat} (cx : Cx Z p s m meth c R kx nx own nm code maxL ret) {i : Fin 4} {v : Value} {Ls' : Array Slot} (d : Dc code pc (.astore_n i) 1 pc') (hv : v.isRef = true) (hl : storeLocals Ls i.val v = some Ls') (H : G p l e R s m args below meth c Z.heap.size Q h k n pc' Ls' st) : G p l e R s m args below meth c Z.heap.size Q h k n pc Ls (v :: st) := by
  obtain ⟨hx, hZ, hown, rfl, hml, hret, hnm, -⟩ := cx
  obtain ⟨d, rfl⟩ := d
  intro T locs cells slots X N eT hk hn
  obtain ⟨s₂, o, st2, r⟩ := H T locs cells slots X N eT hk hn
  exact ⟨s₂, o, Jvm.Free.XS.astoreN X.here hx rfl d rfl hv hl st2, r⟩
theorem g_astore {kx nx : Nat} (cx : Cx Z p s m meth c R kx nx own nm code maxL ret) {i : Nat} {v : Value} {Ls' : Array Slot} (d : Dc code pc (.astore i) 2 pc') (hv : v.isRef = true) (hl : storeLocals Ls i v = some Ls') (H : G p l e R s m args below meth c Z.heap.size Q h k n pc' Ls' st) : G p l e R s m args below meth c Z.heap.size Q h k n pc Ls (v :: st) := by
  obtain ⟨hx, hZ, hown, rfl, hml, hret, hnm, -⟩ := cx
  obtain ⟨d, rfl⟩ := d
  intro T locs cells slots X N eT hk hn
  obtain ⟨s₂, o, st2, r⟩ := H T locs cells slots X N eT hk hn
  exact ⟨s₂, o, Jvm.Free.XS.astore X.here hx rfl d rfl hv hl st2, r⟩
theorem g_iconst {kx nx : Nat} (cx : Cx Z p s m meth c R kx nx own nm code maxL ret) {i : Int} {v : Int32} (d : Dc code pc (.iconst i) 1 pc') (hv : Int32.ofInt i = v) (H : G p l e R s m args below meth c Z.heap.size Q h k n pc' Ls (.int v :: st)) : G p l e R s m args below meth c Z.heap.size Q h k n pc Ls st := by
  obtain ⟨hx, hZ, hown, rfl, hml, hret, hnm, -⟩ := cx
  obtain ⟨d, rfl⟩ := d
  intro T locs cells slots X N eT hk hn
  obtain ⟨s₂, o, st2, r⟩ := H T locs cells slots X N eT hk hn
  exact ⟨s₂, o, Jvm.Free.XS.iconst X.here hx rfl d (by rw [hv]; exact st2), r⟩
theorem g_bipush {kx nx : Nat} (cx : Cx Z p s m meth c R kx nx own nm code maxL ret) {i : Int} {v : Int32} (d : Dc code pc (.bipush i) 2 pc') (hv : (Int8.ofInt i).toInt32 = v) (H : G p l e R s m args below meth c Z.heap.size Q h k n pc' Ls (.int v :: st)) : G p l e R s m args below meth c Z.heap.size Q h k n pc Ls st := by
  obtain ⟨hx, hZ, hown, rfl, hml, hret, hnm, -⟩ := cx
  obtain ⟨d, rfl⟩ := d
  intro T locs cells slots X N eT hk hn
  obtain ⟨s₂, o, st2, r⟩ := H T locs cells slots X N eT hk hn
  exact ⟨s₂, o, Jvm.Free.XS.bipush X.here hx rfl d (by rw [hv]; exact st2), r⟩
theorem g_sipush {kx nx : Nat} (cx : Cx Z p s m meth c R kx nx own nm code maxL ret) {i : Int} {v : Int32} (d : Dc code pc (.sipush i) 3 pc') (hv : (Int16.ofInt i).toInt32 = v) (H : G p l e R s m args below meth c Z.heap.size Q h k n pc' Ls (.int v :: st)) : G p l e R s m args below meth c Z.heap.size Q h k n pc Ls st := by
  obtain ⟨hx, hZ, hown, rfl, hml, hret, hnm, -⟩ := cx
  obtain ⟨d, rfl⟩ := d
  intro T locs cells slots X N eT hk hn
  obtain ⟨s₂, o, st2, r⟩ := H T locs cells slots X N eT hk hn
  exact ⟨s₂, o, Jvm.Free.XS.sipush X.here hx rfl d (by rw [hv]; exact st2), r⟩
theorem g_lconst {kx nx : Nat} (cx : Cx Z p s m meth c R kx nx own nm code maxL ret) {i : Fin 2} {v : Int64} (d : Dc code pc (.lconst i) 1 pc') (hv : Int64.ofNat i = v) (H : G p l e R s m args below meth c Z.heap.size Q h k n pc' Ls (.long v :: st)) : G p l e R s m args below meth c Z.heap.size Q h k n pc Ls st := by
  obtain ⟨hx, hZ, hown, rfl, hml, hret, hnm, -⟩ := cx
  obtain ⟨d, rfl⟩ := d
  intro T locs cells slots X N eT hk hn
  obtain ⟨s₂, o, st2, r⟩ := H T locs cells slots X N eT hk hn
  exact ⟨s₂, o, Jvm.Free.XS.lconst X.here hx rfl d (by rw [hv]; exact st2), r⟩
theorem g_aconst_null {kx nx : Nat} (cx : Cx Z p s m meth c R kx nx own nm code maxL ret)  (d : Dc code pc .aconst_null 1 pc') (H : G p l e R s m args below meth c Z.heap.size Q h k n pc' Ls (.null :: st)) : G p l e R s m args below meth c Z.heap.size Q h k n pc Ls st := by
  obtain ⟨hx, hZ, hown, rfl, hml, hret, hnm, -⟩ := cx
  obtain ⟨d, rfl⟩ := d
  intro T locs cells slots X N eT hk hn
  obtain ⟨s₂, o, st2, r⟩ := H T locs cells slots X N eT hk hn
  exact ⟨s₂, o, Jvm.Free.XS.aconstNull X.here hx rfl d  st2, r⟩
theorem g_iadd {kx nx : Nat} (cx : Cx Z p s m meth c R kx nx own nm code maxL ret) {x y : Int32} (d : Dc code pc .iadd 1 pc') (H : G p l e R s m args below meth c Z.heap.size Q h k n pc' Ls (.int (x + y) :: st)) : G p l e R s m args below meth c Z.heap.size Q h k n pc Ls (.int y :: .int x :: st) := by
  obtain ⟨hx, hZ, hown, rfl, hml, hret, hnm, -⟩ := cx
  obtain ⟨d, rfl⟩ := d
  intro T locs cells slots X N eT hk hn
  obtain ⟨s₂, o, st2, r⟩ := H T locs cells slots X N eT hk hn
  exact ⟨s₂, o, Jvm.Free.XS.iadd X.here hx rfl d rfl st2, r⟩
theorem g_ladd {kx nx : Nat} (cx : Cx Z p s m meth c R kx nx own nm code maxL ret) {x y : Int64} (d : Dc code pc .ladd 1 pc') (H : G p l e R s m args below meth c Z.heap.size Q h k n pc' Ls (.long (x + y) :: st)) : G p l e R s m args below meth c Z.heap.size Q h k n pc Ls (.long y :: .long x :: st) := by
  obtain ⟨hx, hZ, hown, rfl, hml, hret, hnm, -⟩ := cx
  obtain ⟨d, rfl⟩ := d
  intro T locs cells slots X N eT hk hn
  obtain ⟨s₂, o, st2, r⟩ := H T locs cells slots X N eT hk hn
  exact ⟨s₂, o, Jvm.Free.XS.ladd X.here hx rfl d rfl st2, r⟩
theorem g_isub {kx nx : Nat} (cx : Cx Z p s m meth c R kx nx own nm code maxL ret) {x y : Int32} (d : Dc code pc .isub 1 pc') (H : G p l e R s m args below meth c Z.heap.size Q h k n pc' Ls (.int (x - y) :: st)) : G p l e R s m args below meth c Z.heap.size Q h k n pc Ls (.int y :: .int x :: st) := by
  obtain ⟨hx, hZ, hown, rfl, hml, hret, hnm, -⟩ := cx
  obtain ⟨d, rfl⟩ := d
  intro T locs cells slots X N eT hk hn
  obtain ⟨s₂, o, st2, r⟩ := H T locs cells slots X N eT hk hn
  exact ⟨s₂, o, Jvm.Free.XS.isub X.here hx rfl d rfl st2, r⟩
theorem g_lsub {kx nx : Nat} (cx : Cx Z p s m meth c R kx nx own nm code maxL ret) {x y : Int64} (d : Dc code pc .lsub 1 pc') (H : G p l e R s m args below meth c Z.heap.size Q h k n pc' Ls (.long (x - y) :: st)) : G p l e R s m args below meth c Z.heap.size Q h k n pc Ls (.long y :: .long x :: st) := by
  obtain ⟨hx, hZ, hown, rfl, hml, hret, hnm, -⟩ := cx
  obtain ⟨d, rfl⟩ := d
  intro T locs cells slots X N eT hk hn
  obtain ⟨s₂, o, st2, r⟩ := H T locs cells slots X N eT hk hn
  exact ⟨s₂, o, Jvm.Free.XS.lsub X.here hx rfl d rfl st2, r⟩
theorem g_imul {kx nx : Nat} (cx : Cx Z p s m meth c R kx nx own nm code maxL ret) {x y : Int32} (d : Dc code pc .imul 1 pc') (H : G p l e R s m args below meth c Z.heap.size Q h k n pc' Ls (.int (x * y) :: st)) : G p l e R s m args below meth c Z.heap.size Q h k n pc Ls (.int y :: .int x :: st) := by
  obtain ⟨hx, hZ, hown, rfl, hml, hret, hnm, -⟩ := cx
  obtain ⟨d, rfl⟩ := d
  intro T locs cells slots X N eT hk hn
  obtain ⟨s₂, o, st2, r⟩ := H T locs cells slots X N eT hk hn
  exact ⟨s₂, o, Jvm.Free.XS.imul X.here hx rfl d rfl st2, r⟩
theorem g_lmul {kx nx : Nat} (cx : Cx Z p s m meth c R kx nx own nm code maxL ret) {x y : Int64} (d : Dc code pc .lmul 1 pc') (H : G p l e R s m args below meth c Z.heap.size Q h k n pc' Ls (.long (x * y) :: st)) : G p l e R s m args below meth c Z.heap.size Q h k n pc Ls (.long y :: .long x :: st) := by
  obtain ⟨hx, hZ, hown, rfl, hml, hret, hnm, -⟩ := cx
  obtain ⟨d, rfl⟩ := d
  intro T locs cells slots X N eT hk hn
  obtain ⟨s₂, o, st2, r⟩ := H T locs cells slots X N eT hk hn
  exact ⟨s₂, o, Jvm.Free.XS.lmul X.here hx rfl d rfl st2, r⟩
theorem g_iand {kx nx : Nat} (cx : Cx Z p s m meth c R kx nx own nm code maxL ret) {x y : Int32} (d : Dc code pc .iand 1 pc') (H : G p l e R s m args below meth c Z.heap.size Q h k n pc' Ls (.int (x &&& y) :: st)) : G p l e R s m args below meth c Z.heap.size Q h k n pc Ls (.int y :: .int x :: st) := by
  obtain ⟨hx, hZ, hown, rfl, hml, hret, hnm, -⟩ := cx
  obtain ⟨d, rfl⟩ := d
  intro T locs cells slots X N eT hk hn
  obtain ⟨s₂, o, st2, r⟩ := H T locs cells slots X N eT hk hn
  exact ⟨s₂, o, Jvm.Free.XS.iand X.here hx rfl d rfl st2, r⟩
theorem g_land {kx nx : Nat} (cx : Cx Z p s m meth c R kx nx own nm code maxL ret) {x y : Int64} (d : Dc code pc .land 1 pc') (H : G p l e R s m args below meth c Z.heap.size Q h k n pc' Ls (.long (x &&& y) :: st)) : G p l e R s m args below meth c Z.heap.size Q h k n pc Ls (.long y :: .long x :: st) := by
  obtain ⟨hx, hZ, hown, rfl, hml, hret, hnm, -⟩ := cx
  obtain ⟨d, rfl⟩ := d
  intro T locs cells slots X N eT hk hn
  obtain ⟨s₂, o, st2, r⟩ := H T locs cells slots X N eT hk hn
  exact ⟨s₂, o, Jvm.Free.XS.land X.here hx rfl d rfl st2, r⟩
theorem g_ior {kx nx : Nat} (cx : Cx Z p s m meth c R kx nx own nm code maxL ret) {x y : Int32} (d : Dc code pc .ior 1 pc') (H : G p l e R s m args below meth c Z.heap.size Q h k n pc' Ls (.int (x ||| y) :: st)) : G p l e R s m args below meth c Z.heap.size Q h k n pc Ls (.int y :: .int x :: st) := by
  obtain ⟨hx, hZ, hown, rfl, hml, hret, hnm, -⟩ := cx
  obtain ⟨d, rfl⟩ := d
  intro T locs cells slots X N eT hk hn
  obtain ⟨s₂, o, st2, r⟩ := H T locs cells slots X N eT hk hn
  exact ⟨s₂, o, Jvm.Free.XS.ior X.here hx rfl d rfl st2, r⟩
theorem g_lor {kx nx : Nat} (cx : Cx Z p s m meth c R kx nx own nm code maxL ret) {x y : Int64} (d : Dc code pc .lor 1 pc') (H : G p l e R s m args below meth c Z.heap.size Q h k n pc' Ls (.long (x ||| y) :: st)) : G p l e R s m args below meth c Z.heap.size Q h k n pc Ls (.long y :: .long x :: st) := by
  obtain ⟨hx, hZ, hown, rfl, hml, hret, hnm, -⟩ := cx
  obtain ⟨d, rfl⟩ := d
  intro T locs cells slots X N eT hk hn
  obtain ⟨s₂, o, st2, r⟩ := H T locs cells slots X N eT hk hn
  exact ⟨s₂, o, Jvm.Free.XS.lor X.here hx rfl d rfl st2, r⟩
theorem g_ixor {kx nx : Nat} (cx : Cx Z p s m meth c R kx nx own nm code maxL ret) {x y : Int32} (d : Dc code pc .ixor 1 pc') (H : G p l e R s m args below meth c Z.heap.size Q h k n pc' Ls (.int (x ^^^ y) :: st)) : G p l e R s m args below meth c Z.heap.size Q h k n pc Ls (.int y :: .int x :: st) := by
  obtain ⟨hx, hZ, hown, rfl, hml, hret, hnm, -⟩ := cx
  obtain ⟨d, rfl⟩ := d
  intro T locs cells slots X N eT hk hn
  obtain ⟨s₂, o, st2, r⟩ := H T locs cells slots X N eT hk hn
  exact ⟨s₂, o, Jvm.Free.XS.ixor X.here hx rfl d rfl st2, r⟩
theorem g_lxor {kx nx : Nat} (cx : Cx Z p s m meth c R kx nx own nm code maxL ret) {x y : Int64} (d : Dc code pc .lxor 1 pc') (H : G p l e R s m args below meth c Z.heap.size Q h k n pc' Ls (.long (x ^^^ y) :: st)) : G p l e R s m args below meth c Z.heap.size Q h k n pc Ls (.long y :: .long x :: st) := by
  obtain ⟨hx, hZ, hown, rfl, hml, hret, hnm, -⟩ := cx
  obtain ⟨d, rfl⟩ := d
  intro T locs cells slots X N eT hk hn
  obtain ⟨s₂, o, st2, r⟩ := H T locs cells slots X N eT hk hn
  exact ⟨s₂, o, Jvm.Free.XS.lxor X.here hx rfl d rfl st2, r⟩
theorem g_ishl {kx nx : Nat} (cx : Cx Z p s m meth c R kx nx own nm code maxL ret) {x : Int32} {y : Int32} (d : Dc code pc .ishl 1 pc') (H : G p l e R s m args below meth c Z.heap.size Q h k n pc' Ls (.int (x <<< (y &&& 31)) :: st)) : G p l e R s m args below meth c Z.heap.size Q h k n pc Ls (.int y :: .int x :: st) := by
  obtain ⟨hx, hZ, hown, rfl, hml, hret, hnm, -⟩ := cx
  obtain ⟨d, rfl⟩ := d
  intro T locs cells slots X N eT hk hn
  obtain ⟨s₂, o, st2, r⟩ := H T locs cells slots X N eT hk hn
  exact ⟨s₂, o, Jvm.Free.XS.ishl X.here hx rfl d rfl st2, r⟩
theorem g_ishr {kx nx : Nat} (cx : Cx Z p s m meth c R kx nx own nm code maxL ret) {x : Int32} {y : Int32} (d : Dc code pc .ishr 1 pc') (H : G p l e R s m args below meth c Z.heap.size Q h k n pc' Ls (.int (x >>> (y &&& 31)) :: st)) : G p l e R s m args below meth c Z.heap.size Q h k n pc Ls (.int y :: .int x :: st) := by
  obtain ⟨hx, hZ, hown, rfl, hml, hret, hnm, -⟩ := cx
  obtain ⟨d, rfl⟩ := d
  intro T locs cells slots X N eT hk hn
  obtain ⟨s₂, o, st2, r⟩ := H T locs cells slots X N eT hk hn
  exact ⟨s₂, o, Jvm.Free.XS.ishr X.here hx rfl d rfl st2, r⟩
theorem g_iushr {kx nx : Nat} (cx : Cx Z p s m meth c R kx nx own nm code maxL ret) {x : Int32} {y : Int32} (d : Dc code pc .iushr 1 pc') (H : G p l e R s m args below meth c Z.heap.size Q h k n pc' Ls (.int ((x.toUInt32 >>> (y &&& 31).toUInt32).toInt32) :: st)) : G p l e R s m args below meth c Z.heap.size Q h k n pc Ls (.int y :: .int x :: st) := by
  obtain ⟨hx, hZ, hown, rfl, hml, hret, hnm, -⟩ := cx
  obtain ⟨d, rfl⟩ := d
  intro T locs cells slots X N eT hk hn
  obtain ⟨s₂, o, st2, r⟩ := H T locs cells slots X N eT hk hn
  exact ⟨s₂, o, Jvm.Free.XS.iushr X.here hx rfl d rfl st2, r⟩
theorem g_lshl {kx nx : Nat} (cx : Cx Z p s m meth c R kx nx own nm code maxL ret) {x : Int64} {y : Int32} (d : Dc code pc .lshl 1 pc') (H : G p l e R s m args below meth c Z.heap.size Q h k n pc' Ls (.long (x <<< (y &&& 0x3f).toInt64) :: st)) : G p l e R s m args below meth c Z.heap.size Q h k n pc Ls (.int y :: .long x :: st) := by
  obtain ⟨hx, hZ, hown, rfl, hml, hret, hnm, -⟩ := cx
  obtain ⟨d, rfl⟩ := d
  intro T locs cells slots X N eT hk hn
  obtain ⟨s₂, o, st2, r⟩ := H T locs cells slots X N eT hk hn
  exact ⟨s₂, o, Jvm.Free.XS.lshl X.here hx rfl d rfl st2, r⟩
theorem g_lshr {kx nx : Nat} (cx : Cx Z p s m meth c R kx nx own nm code maxL ret) {x : Int64} {y : Int32} (d : Dc code pc .lshr 1 pc') (H : G p l e R s m args below meth c Z.heap.size Q h k n pc' Ls (.long (x >>> (y &&& 0x3f).toInt64) :: st)) : G p l e R s m args below meth c Z.heap.size Q h k n pc Ls (.int y :: .long x :: st) := by
  obtain ⟨hx, hZ, hown, rfl, hml, hret, hnm, -⟩ := cx
  obtain ⟨d, rfl⟩ := d
  intro T locs cells slots X N eT hk hn
  obtain ⟨s₂, o, st2, r⟩ := H T locs cells slots X N eT hk hn
  exact ⟨s₂, o, Jvm.Free.XS.lshr X.here hx rfl d rfl st2, r⟩
theorem g_lushr {kx nx : Nat} (cx : Cx Z p s m meth c R kx nx own nm code maxL ret) {x : Int64} {y : Int32} (d : Dc code pc .lushr 1 pc') (H : G p l e R s m args below meth c Z.heap.size Q h k n pc' Ls (.long ((x.toUInt64 >>> (y &&& 0x3f).toInt64.toUInt64).toInt64) :: st)) : G p l e R s m args below meth c Z.heap.size Q h k n pc Ls (.int y :: .long x :: st) := by
  obtain ⟨hx, hZ, hown, rfl, hml, hret, hnm, -⟩ := cx
  obtain ⟨d, rfl⟩ := d
  intro T locs cells slots X N eT hk hn
  obtain ⟨s₂, o, st2, r⟩ := H T locs cells slots X N eT hk hn
  exact ⟨s₂, o, Jvm.Free.XS.lushr X.here hx rfl d rfl st2, r⟩
theorem g_ineg {kx nx : Nat} (cx : Cx Z p s m meth c R kx nx own nm code maxL ret) {x : Int32} (d : Dc code pc .ineg 1 pc') (H : G p l e R s m args below meth c Z.heap.size Q h k n pc' Ls (.int (-x) :: st)) : G p l e R s m args below meth c Z.heap.size Q h k n pc Ls (.int x :: st) := by
  obtain ⟨hx, hZ, hown, rfl, hml, hret, hnm, -⟩ := cx
  obtain ⟨d, rfl⟩ := d
  intro T locs cells slots X N eT hk hn
  obtain ⟨s₂, o, st2, r⟩ := H T locs cells slots X N eT hk hn
  exact ⟨s₂, o, Jvm.Free.XS.ineg X.here hx rfl d rfl st2, r⟩
theorem g_lneg {kx nx : Nat} (cx : Cx Z p s m meth c R kx nx own nm code maxL ret) {x : Int64} (d : Dc code pc .lneg 1 pc') (H : G p l e R s m args below meth c Z.heap.size Q h k n pc' Ls (.long (-x) :: st)) : G p l e R s m args below meth c Z.heap.size Q h k n pc Ls (.long x :: st) := by
  obtain ⟨hx, hZ, hown, rfl, hml, hret, hnm, -⟩ := cx
  obtain ⟨d, rfl⟩ := d
  intro T locs cells slots X N eT hk hn
  obtain ⟨s₂, o, st2, r⟩ := H T locs cells slots X N eT hk hn
  exact ⟨s₂, o, Jvm.Free.XS.lneg X.here hx rfl d rfl st2, r⟩
theorem g_i2l {kx nx : Nat} (cx : Cx Z p s m meth c R kx nx own nm code maxL ret) {x : Int32} (d : Dc code pc .i2l 1 pc') (H : G p l e R s m args below meth c Z.heap.size Q h k n pc' Ls (.long (x.toInt64) :: st)) : G p l e R s m args below meth c Z.heap.size Q h k n pc Ls (.int x :: st) := by
  obtain ⟨hx, hZ, hown, rfl, hml, hret, hnm, -⟩ := cx
  obtain ⟨d, rfl⟩ := d
  intro T locs cells slots X N eT hk hn
  obtain ⟨s₂, o, st2, r⟩ := H T locs cells slots X N eT hk hn
  exact ⟨s₂, o, Jvm.Free.XS.i2l X.here hx rfl d rfl st2, r⟩
theorem g_l2i {kx nx : Nat} (cx : Cx Z p s m meth c R kx nx own nm code maxL ret) {x : Int64} (d : Dc code pc .l2i 1 pc') (H : G p l e R s m args below meth c Z.heap.size Q h k n pc' Ls (.int (x.toInt32) :: st)) : G p l e R s m args below meth c Z.heap.size Q h k n pc Ls (.long x :: st) := by
  obtain ⟨hx, hZ, hown, rfl, hml, hret, hnm, -⟩ := cx
  obtain ⟨d, rfl⟩ := d
  intro T locs cells slots X N eT hk hn
  obtain ⟨s₂, o, st2, r⟩ := H T locs cells slots X N eT hk hn
  exact ⟨s₂, o, Jvm.Free.XS.l2i X.here hx rfl d rfl st2, r⟩
theorem g_i2b {kx nx : Nat} (cx : Cx Z p s m meth c R kx nx own nm code maxL ret) {x : Int32} (d : Dc code pc .i2b 1 pc') (H : G p l e R s m args below meth c Z.heap.size Q h k n pc' Ls (.int (x.toInt8.toInt32) :: st)) : G p l e R s m args below meth c Z.heap.size Q h k n pc Ls (.int x :: st) := by
  obtain ⟨hx, hZ, hown, rfl, hml, hret, hnm, -⟩ := cx
  obtain ⟨d, rfl⟩ := d
  intro T locs cells slots X N eT hk hn
  obtain ⟨s₂, o, st2, r⟩ := H T locs cells slots X N eT hk hn
  exact ⟨s₂, o, Jvm.Free.XS.i2b X.here hx rfl d rfl st2, r⟩
theorem g_i2s {kx nx : Nat} (cx : Cx Z p s m meth c R kx nx own nm code maxL ret) {x : Int32} (d : Dc code pc .i2s 1 pc') (H : G p l e R s m args below meth c Z.heap.size Q h k n pc' Ls (.int (x.toInt16.toInt32) :: st)) : G p l e R s m args below meth c Z.heap.size Q h k n pc Ls (.int x :: st) := by
  obtain ⟨hx, hZ, hown, rfl, hml, hret, hnm, -⟩ := cx
  obtain ⟨d, rfl⟩ := d
  intro T locs cells slots X N eT hk hn
  obtain ⟨s₂, o, st2, r⟩ := H T locs cells slots X N eT hk hn
  exact ⟨s₂, o, Jvm.Free.XS.i2s X.here hx rfl d rfl st2, r⟩
theorem g_i2c {kx nx : Nat} (cx : Cx Z p s m meth c R kx nx own nm code maxL ret) {x : Int32} (d : Dc code pc .i2c 1 pc') (H : G p l e R s m args below meth c Z.heap.size Q h k n pc' Ls (.int (x.toUInt32.toUInt16.toUInt32.toInt32) :: st)) : G p l e R s m args below meth c Z.heap.size Q h k n pc Ls (.int x :: st) := by
  obtain ⟨hx, hZ, hown, rfl, hml, hret, hnm, -⟩ := cx
  obtain ⟨d, rfl⟩ := d
  intro T locs cells slots X N eT hk hn
  obtain ⟨s₂, o, st2, r⟩ := H T locs cells slots X N eT hk hn
  exact ⟨s₂, o, Jvm.Free.XS.i2c X.here hx rfl d rfl st2, r⟩
theorem g_idiv {kx nx : Nat} (cx : Cx Z p s m meth c R kx nx own nm code maxL ret) {x y : Int32} (d : Dc code pc .idiv 1 pc') (hy : y ≠ 0) (H : G p l e R s m args below meth c Z.heap.size Q h k n pc' Ls (.int (x / y) :: st)) : G p l e R s m args below meth c Z.heap.size Q h k n pc Ls (.int y :: .int x :: st) := by
  obtain ⟨hx, hZ, hown, rfl, hml, hret, hnm, -⟩ := cx
  obtain ⟨d, rfl⟩ := d
  intro T locs cells slots X N eT hk hn
  obtain ⟨s₂, o, st2, r⟩ := H T locs cells slots X N eT hk hn
  exact ⟨s₂, o, Jvm.Free.XS.idiv X.here hx rfl d rfl hy st2, r⟩
theorem g_ldiv {kx nx : Nat} (cx : Cx Z p s m meth c R kx nx own nm code maxL ret) {x y : Int64} (d : Dc code pc .ldiv 1 pc') (hy : y ≠ 0) (H : G p l e R s m args below meth c Z.heap.size Q h k n pc' Ls (.long (x / y) :: st)) : G p l e R s m args below meth c Z.heap.size Q h k n pc Ls (.long y :: .long x :: st) := by
  obtain ⟨hx, hZ, hown, rfl, hml, hret, hnm, -⟩ := cx
  obtain ⟨d, rfl⟩ := d
  intro T locs cells slots X N eT hk hn
  obtain ⟨s₂, o, st2, r⟩ := H T locs cells slots X N eT hk hn
  exact ⟨s₂, o, Jvm.Free.XS.ldiv X.here hx rfl d rfl hy st2, r⟩
theorem g_irem {kx nx : Nat} (cx : Cx Z p s m meth c R kx nx own nm code maxL ret) {x y : Int32} (d : Dc code pc .irem 1 pc') (hy : y ≠ 0) (H : G p l e R s m args below meth c Z.heap.size Q h k n pc' Ls (.int (x % y) :: st)) : G p l e R s m args below meth c Z.heap.size Q h k n pc Ls (.int y :: .int x :: st) := by
  obtain ⟨hx, hZ, hown, rfl, hml, hret, hnm, -⟩ := cx
  obtain ⟨d, rfl⟩ := d
  intro T locs cells slots X N eT hk hn
  obtain ⟨s₂, o, st2, r⟩ := H T locs cells slots X N eT hk hn
  exact ⟨s₂, o, Jvm.Free.XS.irem X.here hx rfl d rfl hy (by rw [irem_eq_mod]; exact st2), r⟩
theorem g_lrem {kx nx : Nat} (cx : Cx Z p s m meth c R kx nx own nm code maxL ret) {x y : Int64} (d : Dc code pc .lrem 1 pc') (hy : y ≠ 0) (H : G p l e R s m args below meth c Z.heap.size Q h k n pc' Ls (.long (x % y) :: st)) : G p l e R s m args below meth c Z.heap.size Q h k n pc Ls (.long y :: .long x :: st) := by
  obtain ⟨hx, hZ, hown, rfl, hml, hret, hnm, -⟩ := cx
  obtain ⟨d, rfl⟩ := d
  intro T locs cells slots X N eT hk hn
  obtain ⟨s₂, o, st2, r⟩ := H T locs cells slots X N eT hk hn
  exact ⟨s₂, o, Jvm.Free.XS.lrem X.here hx rfl d rfl hy (by rw [lrem_mod]; exact st2), r⟩
theorem g_iinc {kx nx : Nat} (cx : Cx Z p s m meth c R kx nx own nm code maxL ret) {i : Nat} {z : Int} {x v : Int32} {Ls' : Array Slot} (d : Dc code pc (.iinc i z) 3 pc') (hl : Ls[i]? = some (.val (.int x))) (hv : Int32.ofInt z = v) (hl' : storeLocals Ls i (.int (x + v)) = some Ls') (H : G p l e R s m args below meth c Z.heap.size Q h k n pc' Ls' st) : G p l e R s m args below meth c Z.heap.size Q h k n pc Ls st := by
  obtain ⟨hx, hZ, hown, rfl, hml, hret, hnm, -⟩ := cx
  obtain ⟨d, rfl⟩ := d
  intro T locs cells slots X N eT hk hn
  obtain ⟨s₂, o, st2, r⟩ := H T locs cells slots X N eT hk hn
  exact ⟨s₂, o, Jvm.Free.XS.iinc X.here hx rfl d hl (by rw [hv]; exact hl') st2, r⟩
theorem g_dup {kx nx : Nat} (cx : Cx Z p s m meth c R kx nx own nm code maxL ret) {v : Value} (d : Dc code pc .dup 1 pc') (hc : v.category = 1) (H : G p l e R s m args below meth c Z.heap.size Q h k n pc' Ls (v :: v :: st)) : G p l e R s m args below meth c Z.heap.size Q h k n pc Ls (v :: st) := by
  obtain ⟨hx, hZ, hown, rfl, hml, hret, hnm, -⟩ := cx
  obtain ⟨d, rfl⟩ := d
  intro T locs cells slots X N eT hk hn
  obtain ⟨s₂, o, st2, r⟩ := H T locs cells slots X N eT hk hn
  exact ⟨s₂, o, Jvm.Free.XS.dup X.here hx rfl d rfl hc st2, r⟩
theorem g_pop {kx nx : Nat} (cx : Cx Z p s m meth c R kx nx own nm code maxL ret) {v : Value} (d : Dc code pc .pop 1 pc') (hc : v.category = 1) (H : G p l e R s m args below meth c Z.heap.size Q h k n pc' Ls st) : G p l e R s m args below meth c Z.heap.size Q h k n pc Ls (v :: st) := by
  obtain ⟨hx, hZ, hown, rfl, hml, hret, hnm, -⟩ := cx
  obtain ⟨d, rfl⟩ := d
  intro T locs cells slots X N eT hk hn
  obtain ⟨s₂, o, st2, r⟩ := H T locs cells slots X N eT hk hn
  exact ⟨s₂, o, Jvm.Free.XS.pop X.here hx rfl d rfl hc st2, r⟩
theorem g_dup_x1 {kx nx : Nat} (cx : Cx Z p s m meth c R kx nx own nm code maxL ret) {v w : Value} (d : Dc code pc .dup_x1 1 pc') (hc : v.category = 1) (hc2 : w.category = 1) (H : G p l e R s m args below meth c Z.heap.size Q h k n pc' Ls (v :: w :: v :: st)) : G p l e R s m args below meth c Z.heap.size Q h k n pc Ls (v :: w :: st) := by
  obtain ⟨hx, hZ, hown, rfl, hml, hret, hnm, -⟩ := cx
  obtain ⟨d, rfl⟩ := d
  intro T locs cells slots X N eT hk hn
  obtain ⟨s₂, o, st2, r⟩ := H T locs cells slots X N eT hk hn
  exact ⟨s₂, o, Jvm.Free.XS.dupX1 X.here hx rfl d rfl hc hc2 st2, r⟩
theorem g_dup2 {kx nx : Nat} (cx : Cx Z p s m meth c R kx nx own nm code maxL ret) {v w : Value} (d : Dc code pc .dup2 1 pc') (hc : v.category = 1) (hc2 : w.category = 1) (H : G p l e R s m args below meth c Z.heap.size Q h k n pc' Ls (v :: w :: v :: w :: st)) : G p l e R s m args below meth c Z.heap.size Q h k n pc Ls (v :: w :: st) := by
  obtain ⟨hx, hZ, hown, rfl, hml, hret, hnm, -⟩ := cx
  obtain ⟨d, rfl⟩ := d
  intro T locs cells slots X N eT hk hn
  obtain ⟨s₂, o, st2, r⟩ := H T locs cells slots X N eT hk hn
  exact ⟨s₂, o, Jvm.Free.XT.dup2 X.here hx rfl d rfl hc hc2 st2, r⟩
theorem g_dup2L {kx nx : Nat} (cx : Cx Z p s m meth c R kx nx own nm code maxL ret) {v : Int64} (d : Dc code pc .dup2 1 pc') (H : G p l e R s m args below meth c Z.heap.size Q h k n pc' Ls (.long v :: .long v :: st)) : G p l e R s m args below meth c Z.heap.size Q h k n pc Ls (.long v :: st) := by
  obtain ⟨hx, hZ, hown, rfl, hml, hret, hnm, -⟩ := cx
  obtain ⟨d, rfl⟩ := d
  intro T locs cells slots X N eT hk hn
  obtain ⟨s₂, o, st2, r⟩ := H T locs cells slots X N eT hk hn
  exact ⟨s₂, o, Jvm.Free.XT.dup2L X.here hx rfl d rfl st2, r⟩
theorem g_goto {kx nx : Nat} (cx : Cx Z p s m meth c R kx nx own nm code maxL ret) (d : Bi code pc Instr.goto pcY pcN) (H : G p l e R s m args below meth c Z.heap.size Q h k n pcY Ls st) : G p l e R s m args below meth c Z.heap.size Q h k n pc Ls st := by
  obtain ⟨hx, hZ, hown, rfl, hml, hret, hnm, -⟩ := cx
  obtain ⟨o', d, ho, rfl, rfl⟩ := d
  intro T locs cells slots X N eT hk hn
  obtain ⟨s₂, o, st2, r⟩ := H T locs cells slots X N eT hk hn
  exact ⟨s₂, o, Jvm.Free.XS.goto X.here hx rfl (pc0 := pc) rfl d ho rfl st2, r⟩
theorem g_ifB {kx nx : Nat} (cx : Cx Z p s m meth c R kx nx own nm code maxL ret) {cd : ClassFile.Cond} {x : Int32} (d : Bi code pc (Instr.ifCond cd) pcY pcN) (HY : if_icmp.holds cd x 0 = true → G p l e R s m args below meth c Z.heap.size Q h k n pcY Ls st) (HN : if_icmp.holds cd x 0 = false → G p l e R s m args below meth c Z.heap.size Q h k n pcN Ls st) : G p l e R s m args below meth c Z.heap.size Q h k n pc Ls (.int x :: st) := by
  obtain ⟨hx, hZ, hown, rfl, hml, hret, hnm, -⟩ := cx
  obtain ⟨o', d, ho, rfl, rfl⟩ := d
  intro T locs cells slots X N eT hk hn
  cases hc : if_icmp.holds cd x 0
  · obtain ⟨s₂, o, st2, r⟩ := HN hc T locs cells slots X N eT hk hn
    exact ⟨s₂, o, Jvm.Free.XS.ifNo X.here hx rfl d rfl ((if0 _ _).trans hc) st2, r⟩
  · obtain ⟨s₂, o, st2, r⟩ := HY hc T locs cells slots X N eT hk hn
    exact ⟨s₂, o, Jvm.Free.XS.ifYes X.here hx rfl (pc0 := pc) rfl d rfl ((if0 _ _).trans hc) ho rfl st2, r⟩
theorem g_icmpB {kx nx : Nat} (cx : Cx Z p s m meth c R kx nx own nm code maxL ret) {cd : ClassFile.Cond} {x y : Int32} (d : Bi code pc (Instr.if_icmp cd) pcY pcN) (HY : if_icmp.holds cd x y = true → G p l e R s m args below meth c Z.heap.size Q h k n pcY Ls st) (HN : if_icmp.holds cd x y = false → G p l e R s m args below meth c Z.heap.size Q h k n pcN Ls st) : G p l e R s m args below meth c Z.heap.size Q h k n pc Ls (.int y :: .int x :: st) := by
  obtain ⟨hx, hZ, hown, rfl, hml, hret, hnm, -⟩ := cx
  obtain ⟨o', d, ho, rfl, rfl⟩ := d
  intro T locs cells slots X N eT hk hn
  cases hc : if_icmp.holds cd x y
  · obtain ⟨s₂, o, st2, r⟩ := HN hc T locs cells slots X N eT hk hn
    exact ⟨s₂, o, Jvm.Free.XS.icmpNo X.here hx rfl d rfl hc st2, r⟩
  · obtain ⟨s₂, o, st2, r⟩ := HY hc T locs cells slots X N eT hk hn
    exact ⟨s₂, o, Jvm.Free.XS.icmpYes X.here hx rfl (pc0 := pc) rfl d rfl hc ho rfl st2, r⟩
theorem h_eq {x y : Int32} : if_icmp.holds .eq x y = decide (x = y) := by by_cases h : x = y <;> simp [if_icmp.holds, h]
theorem h_ne {x y : Int32} : if_icmp.holds .ne x y = !decide (x = y) := by by_cases h : x = y <;> simp [if_icmp.holds, h]
theorem h_lt {x y : Int32} : if_icmp.holds .lt x y = decide (x < y) := by by_cases h : x < y <;> simp [if_icmp.holds, h]
theorem h_ge {x y : Int32} : if_icmp.holds .ge x y = !decide (x < y) := by by_cases h : x < y <;> simp [if_icmp.holds, h, Int32.not_le.mpr, Int32.not_lt.mp]
theorem h_gt {x y : Int32} : if_icmp.holds .gt x y = decide (y < x) := by by_cases h : y < x <;> simp [if_icmp.holds, h]
theorem h_le {x y : Int32} : if_icmp.holds .le x y = !decide (y < x) := by by_cases h : y < x <;> simp [if_icmp.holds, h, Int32.not_le.mpr, Int32.not_lt.mp]
theorem g_if_eq {kx nx : Nat} (cx : Cx Z p s m meth c R kx nx own nm code maxL ret) {x : Int32} (d : Bi code pc (Instr.ifCond .eq) pcY pcN) (HY : x = 0 → G p l e R s m args below meth c Z.heap.size Q h k n pcY Ls st) (HN : ¬ x = 0 → G p l e R s m args below meth c Z.heap.size Q h k n pcN Ls st) : G p l e R s m args below meth c Z.heap.size Q h k n pc Ls (.int x :: st) :=
  g_ifB cx d (fun q => HY (by rw [h_eq] at q; simpa using q)) (fun q => HN (by rw [h_eq] at q; simpa using q))
theorem g_icmp_eq {kx nx : Nat} (cx : Cx Z p s m meth c R kx nx own nm code maxL ret) {x y : Int32} (d : Bi code pc (Instr.if_icmp .eq) pcY pcN) (HY : x = y → G p l e R s m args below meth c Z.heap.size Q h k n pcY Ls st) (HN : ¬ x = y → G p l e R s m args below meth c Z.heap.size Q h k n pcN Ls st) : G p l e R s m args below meth c Z.heap.size Q h k n pc Ls (.int y :: .int x :: st) :=
  g_icmpB cx d (fun q => HY (by rw [h_eq] at q; simpa using q)) (fun q => HN (by rw [h_eq] at q; simpa using q))
theorem g_if_ne {kx nx : Nat} (cx : Cx Z p s m meth c R kx nx own nm code maxL ret) {x : Int32} (d : Bi code pc (Instr.ifCond .ne) pcY pcN) (HY : ¬ x = 0 → G p l e R s m args below meth c Z.heap.size Q h k n pcY Ls st) (HN : x = 0 → G p l e R s m args below meth c Z.heap.size Q h k n pcN Ls st) : G p l e R s m args below meth c Z.heap.size Q h k n pc Ls (.int x :: st) :=
  g_ifB cx d (fun q => HY (by rw [h_ne] at q; simpa using q)) (fun q => HN (by rw [h_ne] at q; simpa using q))
theorem g_icmp_ne {kx nx : Nat} (cx : Cx Z p s m meth c R kx nx own nm code maxL ret) {x y : Int32} (d : Bi code pc (Instr.if_icmp .ne) pcY pcN) (HY : ¬ x = y → G p l e R s m args below meth c Z.heap.size Q h k n pcY Ls st) (HN : x = y → G p l e R s m args below meth c Z.heap.size Q h k n pcN Ls st) : G p l e R s m args below meth c Z.heap.size Q h k n pc Ls (.int y :: .int x :: st) :=
  g_icmpB cx d (fun q => HY (by rw [h_ne] at q; simpa using q)) (fun q => HN (by rw [h_ne] at q; simpa using q))
theorem g_if_lt {kx nx : Nat} (cx : Cx Z p s m meth c R kx nx own nm code maxL ret) {x : Int32} (d : Bi code pc (Instr.ifCond .lt) pcY pcN) (HY : x < 0 → G p l e R s m args below meth c Z.heap.size Q h k n pcY Ls st) (HN : ¬ x < 0 → G p l e R s m args below meth c Z.heap.size Q h k n pcN Ls st) : G p l e R s m args below meth c Z.heap.size Q h k n pc Ls (.int x :: st) :=
  g_ifB cx d (fun q => HY (by rw [h_lt] at q; simpa using q)) (fun q => HN (by rw [h_lt] at q; simpa using q))
theorem g_icmp_lt {kx nx : Nat} (cx : Cx Z p s m meth c R kx nx own nm code maxL ret) {x y : Int32} (d : Bi code pc (Instr.if_icmp .lt) pcY pcN) (HY : x < y → G p l e R s m args below meth c Z.heap.size Q h k n pcY Ls st) (HN : ¬ x < y → G p l e R s m args below meth c Z.heap.size Q h k n pcN Ls st) : G p l e R s m args below meth c Z.heap.size Q h k n pc Ls (.int y :: .int x :: st) :=
  g_icmpB cx d (fun q => HY (by rw [h_lt] at q; simpa using q)) (fun q => HN (by rw [h_lt] at q; simpa using q))
theorem g_if_ge {kx nx : Nat} (cx : Cx Z p s m meth c R kx nx own nm code maxL ret) {x : Int32} (d : Bi code pc (Instr.ifCond .ge) pcY pcN) (HY : ¬ x < 0 → G p l e R s m args below meth c Z.heap.size Q h k n pcY Ls st) (HN : x < 0 → G p l e R s m args below meth c Z.heap.size Q h k n pcN Ls st) : G p l e R s m args below meth c Z.heap.size Q h k n pc Ls (.int x :: st) :=
  g_ifB cx d (fun q => HY (by rw [h_ge] at q; simpa using q)) (fun q => HN (by rw [h_ge] at q; simpa using q))
theorem g_icmp_ge {kx nx : Nat} (cx : Cx Z p s m meth c R kx nx own nm code maxL ret) {x y : Int32} (d : Bi code pc (Instr.if_icmp .ge) pcY pcN) (HY : ¬ x < y → G p l e R s m args below meth c Z.heap.size Q h k n pcY Ls st) (HN : x < y → G p l e R s m args below meth c Z.heap.size Q h k n pcN Ls st) : G p l e R s m args below meth c Z.heap.size Q h k n pc Ls (.int y :: .int x :: st) :=
  g_icmpB cx d (fun q => HY (by rw [h_ge] at q; simpa using q)) (fun q => HN (by rw [h_ge] at q; simpa using q))
theorem g_if_gt {kx nx : Nat} (cx : Cx Z p s m meth c R kx nx own nm code maxL ret) {x : Int32} (d : Bi code pc (Instr.ifCond .gt) pcY pcN) (HY : 0 < x → G p l e R s m args below meth c Z.heap.size Q h k n pcY Ls st) (HN : ¬ 0 < x → G p l e R s m args below meth c Z.heap.size Q h k n pcN Ls st) : G p l e R s m args below meth c Z.heap.size Q h k n pc Ls (.int x :: st) :=
  g_ifB cx d (fun q => HY (by rw [h_gt] at q; simpa using q)) (fun q => HN (by rw [h_gt] at q; simpa using q))
theorem g_icmp_gt {kx nx : Nat} (cx : Cx Z p s m meth c R kx nx own nm code maxL ret) {x y : Int32} (d : Bi code pc (Instr.if_icmp .gt) pcY pcN) (HY : y < x → G p l e R s m args below meth c Z.heap.size Q h k n pcY Ls st) (HN : ¬ y < x → G p l e R s m args below meth c Z.heap.size Q h k n pcN Ls st) : G p l e R s m args below meth c Z.heap.size Q h k n pc Ls (.int y :: .int x :: st) :=
  g_icmpB cx d (fun q => HY (by rw [h_gt] at q; simpa using q)) (fun q => HN (by rw [h_gt] at q; simpa using q))
theorem g_if_le {kx nx : Nat} (cx : Cx Z p s m meth c R kx nx own nm code maxL ret) {x : Int32} (d : Bi code pc (Instr.ifCond .le) pcY pcN) (HY : ¬ 0 < x → G p l e R s m args below meth c Z.heap.size Q h k n pcY Ls st) (HN : 0 < x → G p l e R s m args below meth c Z.heap.size Q h k n pcN Ls st) : G p l e R s m args below meth c Z.heap.size Q h k n pc Ls (.int x :: st) :=
  g_ifB cx d (fun q => HY (by rw [h_le] at q; simpa using q)) (fun q => HN (by rw [h_le] at q; simpa using q))
theorem g_icmp_le {kx nx : Nat} (cx : Cx Z p s m meth c R kx nx own nm code maxL ret) {x y : Int32} (d : Bi code pc (Instr.if_icmp .le) pcY pcN) (HY : ¬ y < x → G p l e R s m args below meth c Z.heap.size Q h k n pcY Ls st) (HN : y < x → G p l e R s m args below meth c Z.heap.size Q h k n pcN Ls st) : G p l e R s m args below meth c Z.heap.size Q h k n pc Ls (.int y :: .int x :: st) :=
  g_icmpB cx d (fun q => HY (by rw [h_le] at q; simpa using q)) (fun q => HN (by rw [h_le] at q; simpa using q))
theorem g_lcmp {kx nx : Nat} (cx : Cx Z p s m meth c R kx nx own nm code maxL ret) {x y : Int64} (d : Dc code pc .lcmp 1 pc') (H : G p l e R s m args below meth c Z.heap.size Q h k n pc' Ls (.int (lcmpW x y) :: st)) : G p l e R s m args below meth c Z.heap.size Q h k n pc Ls (.long y :: .long x :: st) := by
  obtain ⟨hx, hZ, hown, rfl, hml, hret, hnm, -⟩ := cx
  obtain ⟨d, rfl⟩ := d
  intro T locs cells slots X N eT hk hn
  obtain ⟨s₂, o, st2, r⟩ := H T locs cells slots X N eT hk hn
  exact ⟨s₂, o, Jvm.Free.XS.lcmp X.here hx rfl d rfl st2, r⟩
theorem g_lif_eq {kx nx : Nat} (cx : Cx Z p s m meth c R kx nx own nm code maxL ret) {x y : Int64} (d0 : Dc code pc .lcmp 1 pc') (d : Bi code pc' (Instr.ifCond .eq) pcY pcN) (HY : x = y → G p l e R s m args below meth c Z.heap.size Q h k n pcY Ls st) (HN : ¬ x = y → G p l e R s m args below meth c Z.heap.size Q h k n pcN Ls st) : G p l e R s m args below meth c Z.heap.size Q h k n pc Ls (.long y :: .long x :: st) :=
  g_lcmp cx d0 (g_if_eq cx d (fun q => HY ((lw_eq x y).mp q)) (fun q => HN (fun z => q ((lw_eq x y).mpr z))))
theorem g_lif_ne {kx nx : Nat} (cx : Cx Z p s m meth c R kx nx own nm code maxL ret) {x y : Int64} (d0 : Dc code pc .lcmp 1 pc') (d : Bi code pc' (Instr.ifCond .ne) pcY pcN) (HY : ¬ x = y → G p l e R s m args below meth c Z.heap.size Q h k n pcY Ls st) (HN : x = y → G p l e R s m args below meth c Z.heap.size Q h k n pcN Ls st) : G p l e R s m args below meth c Z.heap.size Q h k n pc Ls (.long y :: .long x :: st) :=
  g_lcmp cx d0 (g_if_ne cx d (fun q => HY (fun z => q ((lw_eq x y).mpr z))) (fun q => HN ((lw_eq x y).mp q)))
theorem g_lif_lt {kx nx : Nat} (cx : Cx Z p s m meth c R kx nx own nm code maxL ret) {x y : Int64} (d0 : Dc code pc .lcmp 1 pc') (d : Bi code pc' (Instr.ifCond .lt) pcY pcN) (HY : x < y → G p l e R s m args below meth c Z.heap.size Q h k n pcY Ls st) (HN : ¬ x < y → G p l e R s m args below meth c Z.heap.size Q h k n pcN Ls st) : G p l e R s m args below meth c Z.heap.size Q h k n pc Ls (.long y :: .long x :: st) :=
  g_lcmp cx d0 (g_if_lt cx d (fun q => HY ((lw_lt x y).mp q)) (fun q => HN (fun z => q ((lw_lt x y).mpr z))))
theorem g_lif_ge {kx nx : Nat} (cx : Cx Z p s m meth c R kx nx own nm code maxL ret) {x y : Int64} (d0 : Dc code pc .lcmp 1 pc') (d : Bi code pc' (Instr.ifCond .ge) pcY pcN) (HY : ¬ x < y → G p l e R s m args below meth c Z.heap.size Q h k n pcY Ls st) (HN : x < y → G p l e R s m args below meth c Z.heap.size Q h k n pcN Ls st) : G p l e R s m args below meth c Z.heap.size Q h k n pc Ls (.long y :: .long x :: st) :=
  g_lcmp cx d0 (g_if_ge cx d (fun q => HY (fun z => q ((lw_lt x y).mpr z))) (fun q => HN ((lw_lt x y).mp q)))
theorem g_lif_gt {kx nx : Nat} (cx : Cx Z p s m meth c R kx nx own nm code maxL ret) {x y : Int64} (d0 : Dc code pc .lcmp 1 pc') (d : Bi code pc' (Instr.ifCond .gt) pcY pcN) (HY : y < x → G p l e R s m args below meth c Z.heap.size Q h k n pcY Ls st) (HN : ¬ y < x → G p l e R s m args below meth c Z.heap.size Q h k n pcN Ls st) : G p l e R s m args below meth c Z.heap.size Q h k n pc Ls (.long y :: .long x :: st) :=
  g_lcmp cx d0 (g_if_gt cx d (fun q => HY ((lw_gt x y).mp q)) (fun q => HN (fun z => q ((lw_gt x y).mpr z))))
theorem g_lif_le {kx nx : Nat} (cx : Cx Z p s m meth c R kx nx own nm code maxL ret) {x y : Int64} (d0 : Dc code pc .lcmp 1 pc') (d : Bi code pc' (Instr.ifCond .le) pcY pcN) (HY : ¬ y < x → G p l e R s m args below meth c Z.heap.size Q h k n pcY Ls st) (HN : y < x → G p l e R s m args below meth c Z.heap.size Q h k n pcN Ls st) : G p l e R s m args below meth c Z.heap.size Q h k n pc Ls (.long y :: .long x :: st) :=
  g_lcmp cx d0 (g_if_le cx d (fun q => HY (fun z => q ((lw_gt x y).mpr z))) (fun q => HN ((lw_gt x y).mp q)))
theorem g_acmp {kx nx : Nat} (cx : Cx Z p s m meth c R kx nx own nm code maxL ret) {cd : ACond} {x y : Value} (h1 : x.isRef = true) (h2 : y.isRef = true) (d : Bi code pc (Instr.if_acmp cd) pcY pcN) (HY : x = y → G p l e R s m args below meth c Z.heap.size Q h k n (if acV cd true = true then pcY else pcN) Ls st) (HN : ¬ x = y → G p l e R s m args below meth c Z.heap.size Q h k n (if acV cd false = true then pcY else pcN) Ls st) : G p l e R s m args below meth c Z.heap.size Q h k n pc Ls (y :: x :: st) := by
  obtain ⟨hx, hZ, hown, rfl, hml, hret, hnm, -⟩ := cx
  obtain ⟨o', d, ho, rfl, rfl⟩ := d
  intro T locs cells slots X N eT hk hn
  by_cases hc : x = y
  · obtain ⟨s₂, o, st2, r⟩ := HY hc T locs cells slots X N eT hk hn
    exact ⟨s₂, o, Jvm.RoadKit.acmp (g := mkF m pc Ls (y :: x :: st)) X hx rfl h1 h2 (pc0 := pc) (same := true) rfl d rfl (decide_eq_true hc) ho rfl st2, r⟩
  · obtain ⟨s₂, o, st2, r⟩ := HN hc T locs cells slots X N eT hk hn
    exact ⟨s₂, o, Jvm.RoadKit.acmp (g := mkF m pc Ls (y :: x :: st)) X hx rfl h1 h2 (pc0 := pc) (same := false) rfl d rfl (decide_eq_false hc) ho rfl st2, r⟩
theorem g_acmp_eq {kx nx : Nat} (cx : Cx Z p s m meth c R kx nx own nm code maxL ret) {x y : Value} (h1 : x.isRef = true) (h2 : y.isRef = true) (d : Bi code pc (Instr.if_acmp .eq) pcY pcN) (HY : x = y → G p l e R s m args below meth c Z.heap.size Q h k n pcY Ls st) (HN : ¬ x = y → G p l e R s m args below meth c Z.heap.size Q h k n pcN Ls st) : G p l e R s m args below meth c Z.heap.size Q h k n pc Ls (y :: x :: st) := g_acmp cx h1 h2 d HY HN
theorem g_acmp_ne {kx nx : Nat} (cx : Cx Z p s m meth c R kx nx own nm code maxL ret) {x y : Value} (h1 : x.isRef = true) (h2 : y.isRef = true) (d : Bi code pc (Instr.if_acmp .ne) pcY pcN) (HY : ¬ x = y → G p l e R s m args below meth c Z.heap.size Q h k n pcY Ls st) (HN : x = y → G p l e R s m args below meth c Z.heap.size Q h k n pcN Ls st) : G p l e R s m args below meth c Z.heap.size Q h k n pc Ls (y :: x :: st) := g_acmp cx h1 h2 d HN HY
theorem g_ifnull_null {kx nx : Nat} (cx : Cx Z p s m meth c R kx nx own nm code maxL ret) (d : Bi code pc Instr.ifnull pcY pcN) (H : G p l e R s m args below meth c Z.heap.size Q h k n pcY Ls st) : G p l e R s m args below meth c Z.heap.size Q h k n pc Ls (.null :: st) := by
  obtain ⟨hx, hZ, hown, rfl, hml, hret, hnm, -⟩ := cx
  obtain ⟨o', d, ho, rfl, rfl⟩ := d
  intro T locs cells slots X N eT hk hn
  obtain ⟨s₂, o, st2, r⟩ := H T locs cells slots X N eT hk hn
  exact ⟨s₂, o, Jvm.Free.XS.ifnullYes X.here hx rfl (pc0 := pc) rfl d rfl ho rfl st2, r⟩
theorem g_ifnull_ref {kx nx : Nat} (cx : Cx Z p s m meth c R kx nx own nm code maxL ret) {a : Addr} (d : Bi code pc Instr.ifnull pcY pcN) (H : G p l e R s m args below meth c Z.heap.size Q h k n pcN Ls st) : G p l e R s m args below meth c Z.heap.size Q h k n pc Ls (.ref a :: st) := by
  obtain ⟨hx, hZ, hown, rfl, hml, hret, hnm, -⟩ := cx
  obtain ⟨o', d, ho, rfl, rfl⟩ := d
  intro T locs cells slots X N eT hk hn
  obtain ⟨s₂, o, st2, r⟩ := H T locs cells slots X N eT hk hn
  exact ⟨s₂, o, Jvm.Free.XS.ifnullNo X.here hx rfl d rfl st2, r⟩
theorem g_ifnonnull_ref {kx nx : Nat} (cx : Cx Z p s m meth c R kx nx own nm code maxL ret) {a : Addr} (d : Bi code pc Instr.ifnonnull pcY pcN) (H : G p l e R s m args below meth c Z.heap.size Q h k n pcY Ls st) : G p l e R s m args below meth c Z.heap.size Q h k n pc Ls (.ref a :: st) := by
  obtain ⟨hx, hZ, hown, rfl, hml, hret, hnm, -⟩ := cx
  obtain ⟨o', d, ho, rfl, rfl⟩ := d
  intro T locs cells slots X N eT hk hn
  obtain ⟨s₂, o, st2, r⟩ := H T locs cells slots X N eT hk hn
  exact ⟨s₂, o, Jvm.Free.XS.ifnonnullYes X.here hx rfl (pc0 := pc) rfl d rfl ho rfl st2, r⟩
theorem g_ifnonnull_null {kx nx : Nat} (cx : Cx Z p s m meth c R kx nx own nm code maxL ret) (d : Bi code pc Instr.ifnonnull pcY pcN) (H : G p l e R s m args below meth c Z.heap.size Q h k n pcN Ls st) : G p l e R s m args below meth c Z.heap.size Q h k n pc Ls (.null :: st) := by
  obtain ⟨hx, hZ, hown, rfl, hml, hret, hnm, -⟩ := cx
  obtain ⟨o', d, ho, rfl, rfl⟩ := d
  intro T locs cells slots X N eT hk hn
  obtain ⟨s₂, o, st2, r⟩ := H T locs cells slots X N eT hk hn
  exact ⟨s₂, o, Jvm.Free.XS.ifnonnullNo X.here hx rfl d rfl st2, r⟩
theorem g_ldcI {kx nx : Nat} (cx : Cx Z p s m meth c R kx nx own nm code maxL ret) {i : Nat} {v : Int32} (d : Dc code pc (.ldc i) 2 pc') (w : (Jvm.Cond.constant own i v).before a0 Z = true) (H : G p l e R s m args below meth c Z.heap.size Q h k n pc' Ls (.int v :: st)) : G p l e R s m args below meth c Z.heap.size Q h k n pc Ls st := by
  obtain ⟨hx, hZ, hown, rfl, hml, hret, hnm, -⟩ := cx
  obtain ⟨d, rfl⟩ := d
  intro T locs cells slots X N eT hk hn
  obtain ⟨s₂, o, st2, r⟩ := H T locs cells slots X N eT hk hn
  exact ⟨s₂, o, X.ldcInt hx hown (mvT hZ w) (g := mkF m pc Ls st) rfl d _ st2, r⟩
theorem g_ldcJ {kx nx : Nat} (cx : Cx Z p s m meth c R kx nx own nm code maxL ret) {i : Nat} {v : Int64} (d : Dc code pc (.ldc2_w i) 3 pc') (w : (Jvm.Cond.constantLong own i v).before a0 Z = true) (H : G p l e R s m args below meth c Z.heap.size Q h k n pc' Ls (.long v :: st)) : G p l e R s m args below meth c Z.heap.size Q h k n pc Ls st := by
  obtain ⟨hx, hZ, hown, rfl, hml, hret, hnm, -⟩ := cx
  obtain ⟨d, rfl⟩ := d
  intro T locs cells slots X N eT hk hn
  obtain ⟨s₂, o, st2, r⟩ := H T locs cells slots X N eT hk hn
  exact ⟨s₂, o, X.ldc2Long hx hown (mvT hZ w) (g := mkF m pc Ls st) rfl d _ st2, r⟩
theorem g_getF {kx nx : Nat} (cx : Cx Z p s m meth c R kx nx own nm code maxL ret) {R0 O f ds host : String} {i : Nat} {a : Addr} {v : Value} (d : Dc code pc (.getfield i) 3 pc') (w : (Jvm.Cond.fieldLink own i R0 f ds).before a0 Z = true ∨ (Jvm.Cond.fieldLinkNest own i R0 f ds host).before a0 Z = true) (via : Via Z R0 O f ds) (F : Fld Z h a O f ds v) (H : G p l e R s m args below meth c Z.heap.size Q h k n pc' Ls (v :: st)) : G p l e R s m args below meth c Z.heap.size Q h k n pc Ls (.ref a :: st) := by
  obtain ⟨hx, hZ, hown, rfl, hml, hret, hnm, -⟩ := cx
  obtain ⟨d, rfl⟩ := d
  intro T locs cells slots X N eT hk hn
  obtain ⟨T', X', e', stp⟩ := getF X hx hZ hown w via eT F (g := mkF m pc Ls (.ref a :: st)) rfl rfl d
  obtain ⟨s₂, o, st2, r⟩ := H T' locs cells slots X' N e' hk hn
  exact ⟨s₂, o, stp _ st2, r⟩
theorem g_getS {kx nx : Nat} (cx : Cx Z p s m meth c R kx nx own nm code maxL ret) {R0 O f ds host : String} {i : Nat} {v : Value} (d : Dc code pc (.getstatic i) 3 pc') (w : (Jvm.Cond.fieldLink own i R0 f ds).before a0 Z = true ∨ (Jvm.Cond.fieldLinkNest own i R0 f ds host).before a0 Z = true) (via : Via Z R0 O f ds) (F : Sta Z h O f ds v) (H : G p l e R s m args below meth c Z.heap.size Q h k n pc' Ls (v :: st)) : G p l e R s m args below meth c Z.heap.size Q h k n pc Ls st := by
  obtain ⟨hx, hZ, hown, rfl, hml, hret, hnm, -⟩ := cx
  obtain ⟨d, rfl⟩ := d
  intro T locs cells slots X N eT hk hn
  obtain ⟨T', X', e', stp⟩ := getS2 X hx hZ hown w via eT F (g := mkF m pc Ls st) rfl d
  obtain ⟨s₂, o, st2, r⟩ := H T' locs cells slots X' N e' hk hn
  exact ⟨s₂, o, stp _ st2, r⟩
theorem g_putF {kx nx : Nat} (cx : Cx Z p s m meth c R kx nx own nm code maxL ret) {R0 O f ds host C : String} {i kk : Nat} {ty : FieldType} {a : Addr} {v old : Value} (d : Dc code pc (.putfield i) 3 pc') (w : (Jvm.Cond.fieldLink own i R0 f ds).before a0 Z = true ∨ (Jvm.Cond.fieldLinkNest own i R0 f ds host).before a0 Z = true) (via : Via Z R0 O f ds) (F : Fld Z h a O f ds old) (E : Exa Z h a C)
    (L : (Jvm.Cond.lays C O f ds).before a0 Z = true ∨ ((Jvm.Cond.laysFinal C O f ds).before a0 Z = true ∧ own = O ∧ nm = "<init>")) (wi : (Jvm.Cond.instantiable C kk).before a0 Z = true) (hty : parseFieldDescriptor ds = some ty) (hnar : narrow ty v = v) (hfit : fits ty v = true) (g : Z.heap.size ≤ a)
    (H : ∀ h', Wr h h' a (Jvm.RoadKit.slotOf Z O f ds) v → G p l e R s m args below meth c Z.heap.size Q h' k n pc' Ls st) : G p l e R s m args below meth c Z.heap.size Q h k n pc Ls (v :: .ref a :: st) := by
  obtain ⟨hx, hZ, hown, rfl, hml, hret, rfl, -⟩ := cx
  obtain ⟨d, rfl⟩ := d
  intro T locs cells slots X N eT hk hn
  obtain ⟨T', h', X', e', W, stp⟩ := putF X hx hZ hown w via eT F E L wi hty hnar hfit (g := mkF m pc Ls (v :: .ref a :: st)) rfl rfl d
  obtain ⟨s₂, o, st2, r⟩ := H h' W T' _ cells slots X' (Fr.snoc X' N g) e' hk hn
  exact ⟨s₂, o, stp _ st2, r⟩
theorem g_putFN {kx nx : Nat} (cx : Cx Z p s m meth c R kx nx own nm code maxL ret) {R0 O f ds C : String} {i kk : Nat} {ty : FieldType} {a : Addr} {v v' old : Value} (d : Dc code pc (.putfield i) 3 pc') (w : (Jvm.Cond.fieldLink own i R0 f ds).before a0 Z = true) (via : Via Z R0 O f ds) (F : Fld Z h a O f ds old) (E : Exa Z h a C)
    (L : (Jvm.Cond.lays C O f ds).before a0 Z = true ∨ ((Jvm.Cond.laysFinal C O f ds).before a0 Z = true ∧ own = O ∧ nm = "<init>")) (wi : (Jvm.Cond.instantiable C kk).before a0 Z = true) (hty : parseFieldDescriptor ds = some ty) (hnar : narrow ty v = v') (hfit : fits ty v' = true) (g : Z.heap.size ≤ a)
    (H : ∀ h', Wr h h' a (Jvm.RoadKit.slotOf Z O f ds) v' → G p l e R s m args below meth c Z.heap.size Q h' k n pc' Ls st) : G p l e R s m args below meth c Z.heap.size Q h k n pc Ls (v :: .ref a :: st) := by
  obtain ⟨hx, hZ, hown, rfl, hml, hret, rfl, -⟩ := cx
  obtain ⟨d, rfl⟩ := d
  intro T locs cells slots X N eT hk hn
  obtain ⟨T', h', X', e', W, stp⟩ := putFN X hx hZ hown w via eT F E L wi hty hnar hfit (g := mkF m pc Ls (v :: .ref a :: st)) rfl rfl d
  obtain ⟨s₂, o, st2, r⟩ := H h' W T' _ cells slots X' (Fr.snoc X' N g) e' hk hn
  exact ⟨s₂, o, stp _ st2, r⟩
theorem g_new {kx nx : Nat} (cx : Cx Z p s m meth c R kx nx own nm code maxL ret) {C : String} {i sl : Nat} {k' n' : Nat} (d : Dc code pc (.new i) 3 pc') (w : (Jvm.Cond.classLink own i C).before a0 Z = true) (wi : (Jvm.Cond.instantiable C sl).before a0 Z = true) (wz : (Jvm.Cond.initialized C).before a0 Z = true) (hk1 : k + 1 = k') (hn1 : n + sl = n') (hkR : k' ≤ R.cells) (hnR : n' ≤ R.slots)
    (H : ∀ h' b, b = h.size → Ext h h' → Exa Z h' b C → (∀ {O nm d : String} {ty : FieldType}, Laid Z a0 C O nm d → parseFieldDescriptor d = some ty → Fld Z h' b O nm d (defaultValue ty)) → G p l e R s m args below meth c Z.heap.size Q h' k' n' pc' Ls (.ref b :: st)) : G p l e R s m args below meth c Z.heap.size Q h k n pc Ls st := by
  obtain ⟨hx, hZ, hown, rfl, hml, hret, hnm, -⟩ := cx
  obtain ⟨d, rfl⟩ := d
  subst hk1 hn1
  intro T locs cells slots X N eT hk hn
  obtain ⟨T', h', X', e', E, A, D, -, stp⟩ := newO X hx hZ hown w wi wz eT (g := mkF m pc Ls st) rfl d (by omega) (by omega)
  obtain ⟨s₂, o, st2, r⟩ := H h' _ rfl E A D T' locs _ _ X' N e' (by omega) (by omega)
  exact ⟨s₂, o, stp _ st2, r⟩
theorem g_newarray {kx nx : Nat} (cx : Cx Z p s m meth c R kx nx own nm code maxL ret) {aty : ArrayType} {z : Int32} {cap k' n' : Nat} {ad : String} (had : "[" ++ (newarray.typeOf aty).toString = ad) (d : Dc code pc (.newarray aty) 2 pc') (w : (Jvm.Cond.arrayClass (newarray.typeOf aty)).before a0 Z = true) (hz : ¬ z < 0) (hcap : z.toNatClampNeg ≤ cap) (hb : cap * 8 ≤ 536870912) (hk1 : k + 1 = k') (hn1 : n + cap = n') (hkR : k' ≤ R.cells) (hnR : n' ≤ R.slots)
    (H : ∀ h' b cA, b = h.size → Ext h h' → Arx Z h' b cA (newarray.typeOf aty) z [] (defaultValue (newarray.typeOf aty)) ad → G p l e R s m args below meth c Z.heap.size Q h' k' n' pc' Ls (.ref b :: st)) : G p l e R s m args below meth c Z.heap.size Q h k n pc Ls (.int z :: st) := by
  obtain ⟨hx, hZ, hown, rfl, hml, hret, hnm, -⟩ := cx
  obtain ⟨d, rfl⟩ := d
  subst hk1 hn1
  intro T locs cells slots X N eT hk hn
  obtain ⟨T', h', cA, X', e', E, A, Ex, stp⟩ := newPE X hx hZ w eT (g := mkF m pc Ls (.int z :: st)) rfl d rfl hz hcap hb (by omega) (by omega) had
  obtain ⟨s₂, o, st2, r⟩ := H h' _ cA rfl E ⟨Arv.new A hz, Ex⟩ T' locs _ _ X' N e' (by omega) (by omega)
  exact ⟨s₂, o, stp _ st2, r⟩
theorem g_anewarray {kx nx : Nat} (cx : Cx Z p s m meth c R kx nx own nm code maxL ret) {C ad : String} {i : Nat} {z : Int32} {cap k' n' : Nat} (had : "[" ++ (FieldType.object C).toString = ad) (d : Dc code pc (.anewarray i) 3 pc') (w1 : (Jvm.Cond.classLink own i C).before a0 Z = true) (w2 : (Jvm.Cond.arrayOver (.object C)).before a0 Z = true) (hz : ¬ z < 0) (hcap : z.toNatClampNeg ≤ cap) (hb : cap * 8 ≤ 536870912) (hk1 : k + 1 = k') (hn1 : n + cap = n') (hkR : k' ≤ R.cells) (hnR : n' ≤ R.slots)
    (H : ∀ h' b cA, b = h.size → Ext h h' → Arx Z h' b cA (.object C) z [] .null ad → Ovr Z cA C → G p l e R s m args below meth c Z.heap.size Q h' k' n' pc' Ls (.ref b :: st)) : G p l e R s m args below meth c Z.heap.size Q h k n pc Ls (.int z :: st) := by
  obtain ⟨hx, hZ, hown, rfl, hml, hret, hnm, -⟩ := cx
  obtain ⟨d, rfl⟩ := d
  subst hk1 hn1
  intro T locs cells slots X N eT hk hn
  obtain ⟨T', h', cA, X', e', E, A, Ex, O, stp⟩ := newRE X hx hZ hown w1 w2 eT (g := mkF m pc Ls (.int z :: st)) rfl d rfl hz hcap hb (by omega) (by omega) had
  obtain ⟨s₂, o, st2, r⟩ := H h' _ cA rfl E ⟨Arv.new A hz, Ex⟩ O T' locs _ _ X' N e' (by omega) (by omega)
  exact ⟨s₂, o, stp _ st2, r⟩
theorem g_anewarrayA {kx nx : Nat} (cx : Cx Z p s m meth c R kx nx own nm code maxL ret) {C ad : String} {t : FieldType} {i : Nat} {z : Int32} {cap k' n' : Nat} (hC : (FieldType.array t).toString = C) (had : "[" ++ C = ad) (d : Dc code pc (.anewarray i) 3 pc') (w1 : (Jvm.Cond.classLink own i C).before a0 Z = true) (w2 : (Jvm.Cond.arrayOver (.array t)).before a0 Z = true) (hz : ¬ z < 0) (hcap : z.toNatClampNeg ≤ cap) (hb : cap * 8 ≤ 536870912) (hk1 : k + 1 = k') (hn1 : n + cap = n') (hkR : k' ≤ R.cells) (hnR : n' ≤ R.slots)
    (H : ∀ h' b cA, b = h.size → Ext h h' → Arx Z h' b cA (.array t) z [] .null ad → OvrA Z cA t C → G p l e R s m args below meth c Z.heap.size Q h' k' n' pc' Ls (.ref b :: st)) : G p l e R s m args below meth c Z.heap.size Q h k n pc Ls (.int z :: st) := by
  obtain ⟨hx, hZ, hown, rfl, hml, hret, hnm, -⟩ := cx
  obtain ⟨d, rfl⟩ := d
  subst hk1 hn1
  intro T locs cells slots X N eT hk hn
  obtain ⟨T', h', cA, X', e', E, A, Ex, O, stp⟩ := newRA X hx hZ hown hC w1 w2 eT (g := mkF m pc Ls (.int z :: st)) rfl d rfl hz hcap hb (by omega) (by omega) had
  obtain ⟨s₂, o, st2, r⟩ := H h' _ cA rfl E ⟨Arv.new A hz, Ex⟩ O T' locs _ _ X' N e' (by omega) (by omega)
  exact ⟨s₂, o, stp _ st2, r⟩
theorem g_iastore {kx nx : Nat} (cx : Cx Z p s m meth c R kx nx own nm code maxL ret) {a : Addr} {cA : ClassId} {z j : Int32} {ad : String} {vs : List Value} {dv : Value} {x : Int32} (d : Dc code pc .iastore 1 pc') (A : Arx Z h a cA .int z vs dv ad) (hj : ¬ j < 0 ∧ j < z) (hl : j.toNatClampNeg < vs.length) (g : Z.heap.size ≤ a) (H : ∀ h', Wr h h' a j.toNatClampNeg (.int x) → Arx Z h' a cA .int z (vs.set j.toNatClampNeg (.int x)) dv ad → G p l e R s m args below meth c Z.heap.size Q h' k n pc' Ls st) : G p l e R s m args below meth c Z.heap.size Q h k n pc Ls (.int x :: .int j :: .ref a :: st) := by
  obtain ⟨hx, hZ, hown, rfl, hml, hret, hnm, -⟩ := cx
  obtain ⟨d, rfl⟩ := d
  intro T locs cells slots X N eT hk hn
  obtain ⟨⟨cl, Ar, q, S, Nz, Hs, Gf⟩, Ex⟩ := A
  obtain ⟨T', h', X', e', W, stp⟩ := stI X hx hZ eT Ar (j := j) (inb_of S hj) (g := mkF m pc Ls (.int x :: .int j :: .ref a :: st)) rfl rfl d
  obtain ⟨s₂, o, st2, r⟩ := H h' W ⟨Arv.set Ar q S Nz Hs Gf rfl W _ rfl hl, Ex.wr W⟩ T' _ cells slots X' (Fr.snoc X' N g) e' hk hn
  exact ⟨s₂, o, stp _ st2, r⟩
theorem g_lastore {kx nx : Nat} (cx : Cx Z p s m meth c R kx nx own nm code maxL ret) {a : Addr} {cA : ClassId} {z j : Int32} {ad : String} {vs : List Value} {dv : Value} {x : Int64} (d : Dc code pc .lastore 1 pc') (A : Arx Z h a cA .long z vs dv ad) (hj : ¬ j < 0 ∧ j < z) (hl : j.toNatClampNeg < vs.length) (g : Z.heap.size ≤ a) (H : ∀ h', Wr h h' a j.toNatClampNeg (.long x) → Arx Z h' a cA .long z (vs.set j.toNatClampNeg (.long x)) dv ad → G p l e R s m args below meth c Z.heap.size Q h' k n pc' Ls st) : G p l e R s m args below meth c Z.heap.size Q h k n pc Ls (.long x :: .int j :: .ref a :: st) := by
  obtain ⟨hx, hZ, hown, rfl, hml, hret, hnm, -⟩ := cx
  obtain ⟨d, rfl⟩ := d
  intro T locs cells slots X N eT hk hn
  obtain ⟨⟨cl, Ar, q, S, Nz, Hs, Gf⟩, Ex⟩ := A
  obtain ⟨T', h', X', e', W, stp⟩ := stJ X hx hZ eT Ar (j := j) (inb_of S hj) (g := mkF m pc Ls (.long x :: .int j :: .ref a :: st)) rfl rfl d
  obtain ⟨s₂, o, st2, r⟩ := H h' W ⟨Arv.set Ar q S Nz Hs Gf rfl W _ rfl hl, Ex.wr W⟩ T' _ cells slots X' (Fr.snoc X' N g) e' hk hn
  exact ⟨s₂, o, stp _ st2, r⟩
theorem g_castore {kx nx : Nat} (cx : Cx Z p s m meth c R kx nx own nm code maxL ret) {a : Addr} {cA : ClassId} {z j : Int32} {ad : String} {vs : List Value} {dv : Value} {x : Int32} (d : Dc code pc .castore 1 pc') (A : Arx Z h a cA .char z vs dv ad) (hj : ¬ j < 0 ∧ j < z) (hl : j.toNatClampNeg < vs.length) (g : Z.heap.size ≤ a) (H : ∀ h', Wr h h' a j.toNatClampNeg (.int (nar .char x)) → Arx Z h' a cA .char z (vs.set j.toNatClampNeg (.int (nar .char x))) dv ad → G p l e R s m args below meth c Z.heap.size Q h' k n pc' Ls st) : G p l e R s m args below meth c Z.heap.size Q h k n pc Ls (.int x :: .int j :: .ref a :: st) := by
  obtain ⟨hx, hZ, hown, rfl, hml, hret, hnm, -⟩ := cx
  obtain ⟨d, rfl⟩ := d
  intro T locs cells slots X N eT hk hn
  obtain ⟨⟨cl, Ar, q, S, Nz, Hs, Gf⟩, Ex⟩ := A
  obtain ⟨T', h', X', e', W, stp⟩ := stC X hx hZ eT Ar (j := j) (inb_of S hj) (g := mkF m pc Ls (.int x :: .int j :: .ref a :: st)) rfl rfl d
  obtain ⟨s₂, o, st2, r⟩ := H h' W ⟨Arv.set Ar q S Nz Hs Gf (fits_nar_char _) W _ rfl hl, Ex.wr W⟩ T' _ cells slots X' (Fr.snoc X' N g) e' hk hn
  exact ⟨s₂, o, stp _ st2, r⟩
theorem g_bastore {kx nx : Nat} (cx : Cx Z p s m meth c R kx nx own nm code maxL ret) {a : Addr} {cA : ClassId} {z j : Int32} {ad : String} {vs : List Value} {dv : Value} {x : Int32} (d : Dc code pc .bastore 1 pc') (A : Arx Z h a cA .byte z vs dv ad) (hj : ¬ j < 0 ∧ j < z) (hl : j.toNatClampNeg < vs.length) (g : Z.heap.size ≤ a) (H : ∀ h', Wr h h' a j.toNatClampNeg (.int (nar .byte x)) → Arx Z h' a cA .byte z (vs.set j.toNatClampNeg (.int (nar .byte x))) dv ad → G p l e R s m args below meth c Z.heap.size Q h' k n pc' Ls st) : G p l e R s m args below meth c Z.heap.size Q h k n pc Ls (.int x :: .int j :: .ref a :: st) := by
  obtain ⟨hx, hZ, hown, rfl, hml, hret, hnm, -⟩ := cx
  obtain ⟨d, rfl⟩ := d
  intro T locs cells slots X N eT hk hn
  obtain ⟨⟨cl, Ar, q, S, Nz, Hs, Gf⟩, Ex⟩ := A
  obtain ⟨T', h', X', e', W, stp⟩ := stB X hx hZ eT Ar (j := j) (inb_of S hj) (g := mkF m pc Ls (.int x :: .int j :: .ref a :: st)) rfl rfl d
  obtain ⟨s₂, o, st2, r⟩ := H h' W ⟨Arv.set Ar q S Nz Hs Gf (fits_nar_byte _) W _ rfl hl, Ex.wr W⟩ T' _ cells slots X' (Fr.snoc X' N g) e' hk hn
  exact ⟨s₂, o, stp _ st2, r⟩
theorem g_aastore {kx nx : Nat} (cx : Cx Z p s m meth c R kx nx own nm code maxL ret) {a : Addr} {cA : ClassId} {z j : Int32} {ad : String} {vs : List Value} {dv v : Value} {ty : FieldType} (d : Dc code pc .aastore 1 pc') (A : Arx Z h a cA ty z vs dv ad) (hty : ty.isReference = true) (hf : fits ty v = true) (So : Sto Z h a v) (hj : ¬ j < 0 ∧ j < z) (hl : j.toNatClampNeg < vs.length) (g : Z.heap.size ≤ a) (H : ∀ h', Wr h h' a j.toNatClampNeg v → Arx Z h' a cA ty z (vs.set j.toNatClampNeg v) dv ad → G p l e R s m args below meth c Z.heap.size Q h' k n pc' Ls st) : G p l e R s m args below meth c Z.heap.size Q h k n pc Ls (v :: .int j :: .ref a :: st) := by
  obtain ⟨hx, hZ, hown, rfl, hml, hret, hnm, -⟩ := cx
  obtain ⟨d, rfl⟩ := d
  intro T locs cells slots X N eT hk hn
  obtain ⟨⟨cl, Ar, q, S, Nz, Hs, Gf⟩, Ex⟩ := A
  obtain ⟨T', h', X', e', W, stp⟩ := stR X hx hZ eT Ar (j := j) (inb_of S hj) hty So (g := mkF m pc Ls (v :: .int j :: .ref a :: st)) rfl rfl d
  obtain ⟨s₂, o, st2, r⟩ := H h' W ⟨Arv.set Ar q S Nz Hs Gf hf W _ rfl hl, Ex.wr W⟩ T' _ cells slots X' (Fr.snoc X' N g) e' hk hn
  exact ⟨s₂, o, stp _ st2, r⟩
theorem g_iaload {kx nx : Nat} (cx : Cx Z p s m meth c R kx nx own nm code maxL ret) {a : Addr} {cA : ClassId} {z j : Int32} {vs : List Value} {dv v : Value} (d : Dc code pc .iaload 1 pc') (A : Arv Z h a cA .int z vs dv) (hj : ¬ j < 0 ∧ j < z) (hv : vs.getD j.toNatClampNeg dv = v) (H : G p l e R s m args below meth c Z.heap.size Q h k n pc' Ls (v :: st)) : G p l e R s m args below meth c Z.heap.size Q h k n pc Ls (.int j :: .ref a :: st) := by
  obtain ⟨hx, hZ, hown, rfl, hml, hret, hnm, -⟩ := cx
  obtain ⟨d, rfl⟩ := d
  intro T locs cells slots X N eT hk hn
  obtain ⟨cl, Ar, q, S, Nz, Hs, Gf⟩ := A
  obtain ⟨s₂, o, st2, r⟩ := H T _ cells slots X N eT hk hn
  exact ⟨s₂, o, X.iaload hx (j := j) (v := v) (by rw [eT]; exact Ar.1) (State.isArrayOf_alike hZ.alike Ar.2.1) Ar.2.2 (inb_of S hj) (Hs.at (inb_of S hj) hv) (g := mkF m pc Ls (.int j :: .ref a :: st)) rfl rfl d _ st2, r⟩
theorem g_laload {kx nx : Nat} (cx : Cx Z p s m meth c R kx nx own nm code maxL ret) {a : Addr} {cA : ClassId} {z j : Int32} {vs : List Value} {dv v : Value} (d : Dc code pc .laload 1 pc') (A : Arv Z h a cA .long z vs dv) (hj : ¬ j < 0 ∧ j < z) (hv : vs.getD j.toNatClampNeg dv = v) (H : G p l e R s m args below meth c Z.heap.size Q h k n pc' Ls (v :: st)) : G p l e R s m args below meth c Z.heap.size Q h k n pc Ls (.int j :: .ref a :: st) := by
  obtain ⟨hx, hZ, hown, rfl, hml, hret, hnm, -⟩ := cx
  obtain ⟨d, rfl⟩ := d
  intro T locs cells slots X N eT hk hn
  obtain ⟨cl, Ar, q, S, Nz, Hs, Gf⟩ := A
  obtain ⟨s₂, o, st2, r⟩ := H T _ cells slots X N eT hk hn
  exact ⟨s₂, o, X.laload hx (j := j) (v := v) (by rw [eT]; exact Ar.1) (State.isArrayOf_alike hZ.alike Ar.2.1) Ar.2.2 (inb_of S hj) (Hs.at (inb_of S hj) hv) (g := mkF m pc Ls (.int j :: .ref a :: st)) rfl rfl d _ st2, r⟩
theorem g_caload {kx nx : Nat} (cx : Cx Z p s m meth c R kx nx own nm code maxL ret) {a : Addr} {cA : ClassId} {z j : Int32} {vs : List Value} {dv v : Value} (d : Dc code pc .caload 1 pc') (A : Arv Z h a cA .char z vs dv) (hj : ¬ j < 0 ∧ j < z) (hv : vs.getD j.toNatClampNeg dv = v) (H : G p l e R s m args below meth c Z.heap.size Q h k n pc' Ls (v :: st)) : G p l e R s m args below meth c Z.heap.size Q h k n pc Ls (.int j :: .ref a :: st) := by
  obtain ⟨hx, hZ, hown, rfl, hml, hret, hnm, -⟩ := cx
  obtain ⟨d, rfl⟩ := d
  intro T locs cells slots X N eT hk hn
  obtain ⟨cl, Ar, q, S, Nz, Hs, Gf⟩ := A
  obtain ⟨s₂, o, st2, r⟩ := H T _ cells slots X N eT hk hn
  exact ⟨s₂, o, X.caload hx (j := j) (v := v) (by rw [eT]; exact Ar.1) (State.isArrayOf_alike hZ.alike Ar.2.1) Ar.2.2 (inb_of S hj) (Hs.at (inb_of S hj) hv) (g := mkF m pc Ls (.int j :: .ref a :: st)) rfl rfl d _ st2, r⟩
theorem g_baload {kx nx : Nat} (cx : Cx Z p s m meth c R kx nx own nm code maxL ret) {a : Addr} {cA : ClassId} {z j : Int32} {vs : List Value} {dv v : Value} (d : Dc code pc .baload 1 pc') (A : Arv Z h a cA .byte z vs dv) (hj : ¬ j < 0 ∧ j < z) (hv : vs.getD j.toNatClampNeg dv = v) (H : G p l e R s m args below meth c Z.heap.size Q h k n pc' Ls (v :: st)) : G p l e R s m args below meth c Z.heap.size Q h k n pc Ls (.int j :: .ref a :: st) := by
  obtain ⟨hx, hZ, hown, rfl, hml, hret, hnm, -⟩ := cx
  obtain ⟨d, rfl⟩ := d
  intro T locs cells slots X N eT hk hn
  obtain ⟨cl, Ar, q, S, Nz, Hs, Gf⟩ := A
  obtain ⟨s₂, o, st2, r⟩ := H T _ cells slots X N eT hk hn
  exact ⟨s₂, o, X.baloadBytes hx (j := j) (v := v) (by rw [eT]; exact Ar.1) (State.isArrayOf_alike hZ.alike Ar.2.1) Ar.2.2 (inb_of S hj) (Hs.at (inb_of S hj) hv) (g := mkF m pc Ls (.int j :: .ref a :: st)) rfl rfl d _ st2, r⟩
theorem g_aaload {kx nx : Nat} (cx : Cx Z p s m meth c R kx nx own nm code maxL ret) {a : Addr} {cA : ClassId} {z j : Int32} {vs : List Value} {dv v : Value} {ty : FieldType} (d : Dc code pc .aaload 1 pc') (A : Arv Z h a cA ty z vs dv) (hty : ty.isReference = true) (hj : ¬ j < 0 ∧ j < z) (hv : vs.getD j.toNatClampNeg dv = v) (H : G p l e R s m args below meth c Z.heap.size Q h k n pc' Ls (v :: st)) : G p l e R s m args below meth c Z.heap.size Q h k n pc Ls (.int j :: .ref a :: st) := by
  obtain ⟨hx, hZ, hown, rfl, hml, hret, hnm, -⟩ := cx
  obtain ⟨d, rfl⟩ := d
  intro T locs cells slots X N eT hk hn
  obtain ⟨cl, Ar, q, S, Nz, Hs, Gf⟩ := A
  obtain ⟨s₂, o, st2, r⟩ := H T _ cells slots X N eT hk hn
  exact ⟨s₂, o, X.aaload hx (j := j) (v := v) (by rw [eT]; exact Ar.1) (State.isArrayOf_alike hZ.alike Ar.2.1) hty Ar.2.2 (inb_of S hj) (Hs.at (inb_of S hj) hv) (g := mkF m pc Ls (.int j :: .ref a :: st)) rfl rfl d _ st2, r⟩
theorem g_arraylength {kx nx : Nat} (cx : Cx Z p s m meth c R kx nx own nm code maxL ret) {a : Addr} {cA : ClassId} {z : Int32} {vs : List Value} {dv : Value} {ty : FieldType} (d : Dc code pc .arraylength 1 pc') (A : Arv Z h a cA ty z vs dv) (H : G p l e R s m args below meth c Z.heap.size Q h k n pc' Ls (.int z :: st)) : G p l e R s m args below meth c Z.heap.size Q h k n pc Ls (.ref a :: st) := by
  obtain ⟨hx, hZ, hown, rfl, hml, hret, hnm, -⟩ := cx
  obtain ⟨d, rfl⟩ := d
  intro T locs cells slots X N eT hk hn
  obtain ⟨cl, Ar, q, S, Nz, Hs, Gf⟩ := A
  obtain ⟨s₂, o, st2, r⟩ := H T _ cells slots X N eT hk hn
  exact ⟨s₂, o, X.arraylength hx (by rw [eT]; exact Ar.1) (State.isArrayOf_alike hZ.alike Ar.2.1) (g := mkF m pc Ls (.ref a :: st)) rfl rfl d _ (by rw [len_of S Nz]; exact st2), r⟩
theorem g_checkcast {kx nx : Nat} (cx : Cx Z p s m meth c R kx nx own nm code maxL ret) {K : String} {i : Nat} {a : Addr} (d : Dc code pc (.checkcast i) 3 pc') (w : (Jvm.Cond.classLink own i K).before a0 Z = true) (F : Ins Z h a K true) (H : G p l e R s m args below meth c Z.heap.size Q h k n pc' Ls (.ref a :: st)) : G p l e R s m args below meth c Z.heap.size Q h k n pc Ls (.ref a :: st) := by
  obtain ⟨hx, hZ, hown, rfl, hml, hret, hnm, -⟩ := cx
  obtain ⟨d, rfl⟩ := d
  intro T locs cells slots X N eT hk hn
  obtain ⟨T', X', e', stp⟩ := castY X hx hZ hown w eT F (g := mkF m pc Ls (.ref a :: st)) rfl rfl d
  obtain ⟨s₂, o, st2, r⟩ := H T' _ cells slots X' N e' hk hn
  exact ⟨s₂, o, stp _ st2, r⟩
theorem g_instanceY {kx nx : Nat} (cx : Cx Z p s m meth c R kx nx own nm code maxL ret) {K : String} {i : Nat} {a : Addr} (d : Dc code pc (.instanceof i) 3 pc') (w : (Jvm.Cond.classLink own i K).before a0 Z = true) (F : Ins Z h a K true) (H : G p l e R s m args below meth c Z.heap.size Q h k n pc' Ls (.int 1 :: st)) : G p l e R s m args below meth c Z.heap.size Q h k n pc Ls (.ref a :: st) := by
  obtain ⟨hx, hZ, hown, rfl, hml, hret, hnm, -⟩ := cx
  obtain ⟨d, rfl⟩ := d
  intro T locs cells slots X N eT hk hn
  obtain ⟨T', X', e', stp⟩ := instY X hx hZ hown w eT F (g := mkF m pc Ls (.ref a :: st)) rfl rfl d
  obtain ⟨s₂, o, st2, r⟩ := H T' _ cells slots X' N e' hk hn
  exact ⟨s₂, o, stp _ st2, r⟩
theorem g_ret {kx nx : Nat} (cx : Cx Z p s m meth c R kx nx own nm code maxL ret) {t : FieldType} {w v : Value} {i : Instr} (d : Dc code pc i 1 pc') (hR : ret = some t)
    (hs : ∀ T locs cells slots, Stand p l e R s m args below meth c T locs cells slots → ∀ fs, (∀ (f : JFrame) (acts : List Action), f.method = m → f.locked = none → f.entered = [] → (doReturn e (T.setTop f) acts (some v)).1 = T.setFrames fs) → Steps p.tables e below (T.setTop (mkF m pc Ls (w :: st))) (T.setFrames fs))
    (hk : k ≤ R.cells) (hn : n ≤ R.slots) (q : Q (some v) h) : G p l e R s m args below meth c Z.heap.size Q h k n pc Ls (w :: st) := by
  obtain ⟨hx, hZ, hown, rfl, hml, rfl, hnm, hlk⟩ := cx
  intro T locs cells slots X N eT hk' hn'
  obtain ⟨fs, hr, hrun, hended, hW, hsame⟩ := X.leave (v := some v) (fun h => by rw [hR] at h; cases h) hlk
  exact ⟨_, _, hs T locs cells slots X fs hr, hrun, hended, _, locs, rfl, ⟨by show Q _ T.heap; rw [eT]; exact q, N⟩, ⟨_, rfl⟩, hW, hsame.mono (by omega) (by omega)⟩
theorem g_retI {kx nx : Nat} (cx : Cx Z p s m meth c R kx nx own nm code maxL ret) {x : Int32} (d : Dc code pc .ireturn 1 pc') (hR : ret = some .int) (hk : k ≤ R.cells) (hn : n ≤ R.slots) (q : Q (some (.int x)) h) : G p l e R s m args below meth c Z.heap.size Q h k n pc Ls (.int x :: st) :=
  g_ret cx (t := .int) d hR (fun T locs cells slots X fs hl => retOut X cx.1 (cx.2.2.2.2.2.1.trans hR) rfl (Or.inl ⟨rfl, Or.inl rfl, _, rfl⟩) (by rw [cx.2.2.2.1]; exact d.1) hl) hk hn q
theorem g_retJ {kx nx : Nat} (cx : Cx Z p s m meth c R kx nx own nm code maxL ret) {x : Int64} (d : Dc code pc .lreturn 1 pc') (hR : ret = some .long) (hk : k ≤ R.cells) (hn : n ≤ R.slots) (q : Q (some (.long x)) h) : G p l e R s m args below meth c Z.heap.size Q h k n pc Ls (.long x :: st) :=
  g_ret cx (t := .long) d hR (fun T locs cells slots X fs hl => retOut X cx.1 (cx.2.2.2.2.2.1.trans hR) rfl (Or.inr (Or.inl ⟨rfl, rfl, _, rfl⟩)) (by rw [cx.2.2.2.1]; exact d.1) hl) hk hn q
theorem g_retN {kx nx : Nat} (cx : Cx Z p s m meth c R kx nx own nm code maxL ret) {x : Int32} {t : FieldType} (d : Dc code pc .ireturn 1 pc') (hR : ret = some t) (ht : t = .boolean ∨ t = .byte ∨ t = .char ∨ t = .short) (hk : k ≤ R.cells) (hn : n ≤ R.slots) (q : Q (some (.int (nar t x))) h) : G p l e R s m args below meth c Z.heap.size Q h k n pc Ls (.int x :: st) :=
  g_ret cx (t := t) d hR (fun T locs cells slots X fs hl => retN X cx.1 (cx.2.2.2.2.2.1.trans hR) ht (by rw [cx.2.2.2.1]; exact d.1) hl) hk hn q
theorem g_retZ {kx nx : Nat} (cx : Cx Z p s m meth c R kx nx own nm code maxL ret) {x : Int32} (d : Dc code pc .ireturn 1 pc') (hR : ret = some .boolean) (hx01 : nar .boolean x = x) (hk : k ≤ R.cells) (hn : n ≤ R.slots) (q : Q (some (.int x)) h) : G p l e R s m args below meth c Z.heap.size Q h k n pc Ls (.int x :: st) :=
  g_retN cx d hR (Or.inl rfl) hk hn (by rw [hx01]; exact q)
theorem g_retA {kx nx : Nat} (cx : Cx Z p s m meth c R kx nx own nm code maxL ret) {w : Value} {t : FieldType} (d : Dc code pc .areturn 1 pc') (hR : ret = some t) (ht : t.isReference = true) (hw : w.isRef = true) (hnar : narrow t w = w) (hk : k ≤ R.cells) (hn : n ≤ R.slots) (q : Q (some w) h) : G p l e R s m args below meth c Z.heap.size Q h k n pc Ls (w :: st) :=
  g_ret cx (t := t) d hR (fun T locs cells slots X fs hl => retOut X cx.1 (cx.2.2.2.2.2.1.trans hR) hnar (Or.inr (Or.inr (Or.inr (Or.inr ⟨rfl, ht, hw⟩)))) (by rw [cx.2.2.2.1]; exact d.1) hl) hk hn q
theorem g_retV {kx nx : Nat} (cx : Cx Z p s m meth c R kx nx own nm code maxL ret) (d : Dc code pc .return_ 1 pc') (hR : ret = none) (hk : k ≤ R.cells) (hn : n ≤ R.slots) (q : Q none h) : G p l e R s m args below meth c Z.heap.size Q h k n pc Ls [] := by
  obtain ⟨hx, hZ, hown, rfl, hml, rfl, hnm, hlk⟩ := cx
  intro T locs cells slots X N eT hk' hn'
  obtain ⟨fs, hr, hrun, hended, hW, hsame⟩ := X.leave (v := none) (fun _ => rfl) hlk
  exact ⟨_, _, X.returnOut hx hR d.1 hr, hrun, hended, _, locs, rfl, ⟨by show Q _ T.heap; rw [eT]; exact q, N⟩, ⟨_, rfl⟩, hW, hsame.mono (by omega) (by omega)⟩
theorem g_initO {kx nx : Nat} (cx : Cx Z p s m meth c R kx nx own nm code maxL ret) {i W : Nat} {a : Addr} (d : Dc code pc (.invokespecial i) 3 pc') (w1 : (Jvm.Cond.methodLink own i Lib.objectInit).before a0 Z = true) (w2 : (Jvm.Cond.instanceMethod Lib.objectInit).before a0 Z = true) (w3 : (Jvm.Cond.code Lib.objectInit ⟨#[0xb1]⟩ 1 none).before a0 Z = true) (hsz : Ls.size = maxL) (hf : 1 ≤ R.frames) (hW : (st.map fun v => v.category).sum ≤ W) (hl : W + 12 ≤ R.locals)
    (H : G p l e R s m args below meth c Z.heap.size Q h k n pc' Ls st) : G p l e R s m args below meth c Z.heap.size Q h k n pc Ls (.ref a :: st) := by
  obtain ⟨hx, hZ, hown, rfl, hml, hret, hnm, -⟩ := cx
  obtain ⟨d, rfl⟩ := d
  intro T locs cells slots X N eT hk hn
  obtain ⟨T', X', e', stp⟩ := initO X hx hZ hown w1 w2 w3 eT (g := mkF m pc Ls (.ref a :: st)) rfl (by rw [hml]; exact hsz) rfl d hf (W := W) (by show 2 * 0 + _ ≤ _; omega) hl
  obtain ⟨s₂, o, st2, r⟩ := H T' locs cells slots X' N e' hk hn
  exact ⟨s₂, o, stp _ st2, r⟩
theorem own_dummy : True := trivial
theorem g_static {kx nx : Nat} (cx : Cx Z p s m meth c R kx nx own nm code maxL ret) {i W k' n' maxL' : Nat} {bytes : ByteArray} {ret' : Option FieldType} {rm : Room} {argsL : List Value} {Q' : Option Value → Heap → Prop} {y : MethodName} (d : Dc code pc (.invokestatic i) 3 pc') (w1 : (Jvm.Cond.methodLink own i y).before a0 Z = true) (w2 : (Jvm.Cond.static y).before a0 Z = true) (w3 : (Jvm.Cond.initialized y.cls).before a0 Z = true) (w4 : (Jvm.Cond.code y bytes maxL' ret').before a0 Z = true) (hy : y.cls ≠ "java/lang/invoke/MethodHandle" ∧ y.cls ≠ "java/lang/invoke/VarHandle") (M : Met l Z y bytes maxL' ret' rm argsL.toArray h Q') (hsz : Ls.size = maxL) (hlen : ∀ sig, parseMethodDescriptor y.desc = some sig → argsL.length = sig.parameters.length) (hf : rm.frames + 1 ≤ R.frames) (hW : (rest.map fun v => v.category).sum ≤ W) (hl : W + (maxL' + 11) + rm.locals ≤ R.locals) (hk1 : k + rm.cells = k') (hn1 : n + rm.slots = n') (hkR : k' ≤ R.cells) (hnR : n' ≤ R.slots)
    (hst : st = argsL.reverse ++ rest) (H : ∀ v h', Q' v h' → G p l e R s m args below meth c Z.heap.size Q h' k' n' pc' Ls (v.toList ++ rest)) : G p l e R s m args below meth c Z.heap.size Q h k n pc Ls st := by
  obtain ⟨hx, hZ, hown, rfl, hml, hret, hnm, -⟩ := cx
  obtain ⟨d, rfl⟩ := d
  subst hk1 hn1 hst
  intro T locs cells slots X N eT hk hn
  obtain ⟨v, _, ⟨T', L', k1', n1'⟩, -, X', ⟨Lc, hQ, l1, l2, l3⟩, stp⟩ := Jvm.LawKit.callS X hx (y := y) hown (mvT hZ w1) (mvT hZ w2) (mvT hZ w3) (mvT hZ w4) hy (backOf (W := W) (Q := fun v h L => Q' v h ∧ Fr Z.heap.size L) (M []) hZ w4 w3 hf hl) (g := mkF m pc Ls (argsL.reverse ++ rest)) rfl (by rw [hml]; exact hsz)  (argsL := argsL) (rest := rest) hlen rfl (by show 2 * 0 + _ ≤ _; omega) d (fun _ _ => ⟨rfl, eT, (by show cells + rm.cells ≤ _; omega), (by show slots + rm.slots ≤ _; omega)⟩)
  dsimp only [Pt.U, Pt.locs, Pt.cells, Pt.slots] at X' l1 l2 l3 stp hQ
  subst l1 l2 l3
  obtain ⟨s₂, o, st2, r⟩ := H v T'.heap hQ.1 T' _ _ _ X' (Fr.app N hQ.2) rfl (by omega) (by omega)
  exact ⟨s₂, o, stp _ st2, r⟩
theorem g_special {kx nx : Nat} (cx : Cx Z p s m meth c R kx nx own nm code maxL ret) {i W k' n' maxL' : Nat} {bytes : ByteArray} {ret' : Option FieldType} {rm : Room} {argsL : List Value} {Q' : Option Value → Heap → Prop} {y : MethodName} {a : Addr} (d : Dc code pc (.invokespecial i) 3 pc') (hyn : y.name = "<init>") (hr0 : ret' = none) (w1 : (Jvm.Cond.methodLink own i y).before a0 Z = true) (w2 : (Jvm.Cond.instanceMethod y).before a0 Z = true) (w3 : (Jvm.Cond.initialized y.cls).before a0 Z = true) (w4 : (Jvm.Cond.code y bytes maxL' ret').before a0 Z = true) (hy : y.cls ≠ "java/lang/invoke/MethodHandle" ∧ y.cls ≠ "java/lang/invoke/VarHandle") (M : Met l Z y bytes maxL' ret' rm (.ref a :: argsL).toArray h Q') (hsz : Ls.size = maxL) (hlen : ∀ sig, parseMethodDescriptor y.desc = some sig → argsL.length = sig.parameters.length) (hf : rm.frames + 1 ≤ R.frames) (hW : (rest.map fun v => v.category).sum ≤ W) (hl : W + (maxL' + 11) + rm.locals ≤ R.locals) (hk1 : k + rm.cells = k') (hn1 : n + rm.slots = n') (hkR : k' ≤ R.cells) (hnR : n' ≤ R.slots)
    (hst : st = argsL.reverse ++ .ref a :: rest) (H : ∀ v h', Q' v h' → G p l e R s m args below meth c Z.heap.size Q h' k' n' pc' Ls (v.toList ++ rest)) : G p l e R s m args below meth c Z.heap.size Q h k n pc Ls st := by
  obtain ⟨hx, hZ, hown, rfl, hml, hret, hnm, -⟩ := cx
  obtain ⟨d, rfl⟩ := d
  subst hk1 hn1 hst
  intro T locs cells slots X N eT hk hn
  subst hr0
  obtain ⟨v, _, ⟨T', L', k1', n1'⟩, -, X', ⟨Lc, hQ, l1, l2, l3⟩, stp⟩ := X.specialBack hx (y := y) hyn hown (mvT hZ w1) (mvT hZ w2) (mvT hZ w4) hy (backOf (W := W) (Q := fun v h L => Q' v h ∧ Fr Z.heap.size L) (M []) hZ w4 w3 hf hl) (g := mkF m pc Ls (argsL.reverse ++ .ref a :: rest)) rfl (by rw [hml]; exact hsz) (Steps.refl _) (a := a) (argsL := argsL) (rest := rest) hlen rfl (by show 2 * 0 + _ ≤ _; omega) d (fun _ _ => ⟨rfl, eT, (by show cells + rm.cells ≤ _; omega), (by show slots + rm.slots ≤ _; omega)⟩)
  dsimp only [Pt.U, Pt.locs, Pt.cells, Pt.slots] at X' l1 l2 l3 stp hQ
  subst l1 l2 l3
  obtain ⟨s₂, o, st2, r⟩ := H v T'.heap hQ.1 T' _ _ _ X' (Fr.app N hQ.2) rfl (by omega) (by omega)
  exact ⟨s₂, o, stp.trans st2, r⟩
theorem g_virtual {kx nx : Nat} (cx : Cx Z p s m meth c R kx nx own nm code maxL ret) {i W k' n' maxL' : Nat} {bytes : ByteArray} {ret' : Option FieldType} {rm : Room} {argsL : List Value} {Q' : Option Value → Heap → Prop} {y z : MethodName} {a : Addr} {C : String} (d : Dc code pc (.invokevirtual i) 3 pc') (w1 : (Jvm.Cond.methodLink own i y).before a0 Z = true) (w2 : (Jvm.Cond.declares y).before a0 Z = true) (w3 : (Jvm.Cond.initialized z.cls).before a0 Z = true) (w4 : (Jvm.Cond.code z bytes maxL' ret').before a0 Z = true) (w5 : (Jvm.Cond.selects C y z).before a0 Z = true) (w6 : (Jvm.Cond.instanceMethod z).before a0 Z = true) (hnf : y = z) (hy : y.cls ≠ "java/lang/invoke/MethodHandle" ∧ y.cls ≠ "java/lang/invoke/VarHandle") (E : Exa Z h a C) (M : Met l Z z bytes maxL' ret' rm (.ref a :: argsL).toArray h Q') (hsz : Ls.size = maxL) (hlen : ∀ sig, parseMethodDescriptor y.desc = some sig → argsL.length = sig.parameters.length) (hf : rm.frames + 1 ≤ R.frames) (hW : (rest.map fun v => v.category).sum ≤ W) (hl : W + (maxL' + 11) + rm.locals ≤ R.locals) (hk1 : k + rm.cells = k') (hn1 : n + rm.slots = n') (hkR : k' ≤ R.cells) (hnR : n' ≤ R.slots)
    (hst : st = argsL.reverse ++ .ref a :: rest) (H : ∀ v h', Q' v h' → G p l e R s m args below meth c Z.heap.size Q h' k' n' pc' Ls (v.toList ++ rest)) : G p l e R s m args below meth c Z.heap.size Q h k n pc Ls st := by
  obtain ⟨hx, hZ, hown, rfl, hml, hret, hnm, -⟩ := cx
  obtain ⟨d, rfl⟩ := d
  subst hk1 hn1 hst
  intro T locs cells slots X N eT hk hn
  subst hnf
  obtain ⟨cq, kq, q1, q2, q3⟩ := isOf hZ eT E
  obtain ⟨v, _, ⟨T', L', k1', n1'⟩, -, X', ⟨Lc, hQ, l1, l2, l3⟩, stp⟩ := X.virtualBack hx (y := y) (z := y) hown (mvT hZ w1) (mvT hZ w2) (notFace_of_selects (args := #[]) (mvT hZ w5)) (mvT hZ w5) (mvT hZ w6) hy (backOf (W := W) (Q := fun v h L => Q' v h ∧ Fr Z.heap.size L) (M []) hZ w4 w3 hf hl) q1 q3 (g := mkF m pc Ls (argsL.reverse ++ .ref a :: rest)) rfl (by rw [hml]; exact hsz) (Steps.refl _) (argsL := argsL) (rest := rest) hlen rfl (by show 2 * 0 + _ ≤ _; omega) d (fun _ _ => ⟨rfl, eT, (by show cells + rm.cells ≤ _; omega), (by show slots + rm.slots ≤ _; omega)⟩)
  dsimp only [Pt.U, Pt.locs, Pt.cells, Pt.slots] at X' l1 l2 l3 stp hQ
  subst l1 l2 l3
  obtain ⟨s₂, o, st2, r⟩ := H v T'.heap hQ.1 T' _ _ _ X' (Fr.app N hQ.2) rfl (by omega) (by omega)
  exact ⟨s₂, o, stp.trans st2, r⟩
theorem g_private {kx nx : Nat} (cx : Cx Z p s m meth c R kx nx own nm code maxL ret) {i W k' n' maxL' : Nat} {bytes : ByteArray} {ret' : Option FieldType} {rm : Room} {argsL : List Value} {Q' : Option Value → Heap → Prop} {y : MethodName} {a : Addr} (d : Dc code pc (.invokevirtual i) 3 pc') (w1 : (Jvm.Cond.methodLink own i y).before a0 Z = true) (w2 : (Jvm.Cond.instanceMethod y).before a0 Z = true) (w3 : (Jvm.Cond.initialized y.cls).before a0 Z = true) (w4 : (Jvm.Cond.code y bytes maxL' ret').before a0 Z = true) (w5 : (Jvm.Cond.selects y.cls y y).before a0 Z = true) (w6 : (Jvm.Cond.privateMethod y).before a0 Z = true) (hy : y.cls ≠ "java/lang/invoke/MethodHandle" ∧ y.cls ≠ "java/lang/invoke/VarHandle") {C : String} (E : Exa Z h a C) (M : Met l Z y bytes maxL' ret' rm (.ref a :: argsL).toArray h Q') (hsz : Ls.size = maxL) (hlen : ∀ sig, parseMethodDescriptor y.desc = some sig → argsL.length = sig.parameters.length) (hf : rm.frames + 1 ≤ R.frames) (hW : (rest.map fun v => v.category).sum ≤ W) (hl : W + (maxL' + 11) + rm.locals ≤ R.locals) (hk1 : k + rm.cells = k') (hn1 : n + rm.slots = n') (hkR : k' ≤ R.cells) (hnR : n' ≤ R.slots)
    (hst : st = argsL.reverse ++ .ref a :: rest) (H : ∀ v h', Q' v h' → G p l e R s m args below meth c Z.heap.size Q h' k' n' pc' Ls (v.toList ++ rest)) : G p l e R s m args below meth c Z.heap.size Q h k n pc Ls st := by
  obtain ⟨hx, hZ, hown, rfl, hml, hret, hnm, -⟩ := cx
  obtain ⟨d, rfl⟩ := d
  subst hk1 hn1 hst
  intro T locs cells slots X N eT hk hn
  obtain ⟨cq, q1, q2⟩ := E.cell
  obtain ⟨v, _, ⟨T', L', k1', n1'⟩, -, X', ⟨Lc, hQ, l1, l2, l3⟩, stp⟩ := X.privateBack hx (y := y) hown (mvT hZ w1) (mvT hZ w2) (mvT hZ w5) (Cond.privateMethod_at (mvP hZ w6 (args := #[]))) (mvT hZ w4) hy (backOf (W := W) (Q := fun v h L => Q' v h ∧ Fr Z.heap.size L) (M []) hZ w4 w3 hf hl) (g := mkF m pc Ls (argsL.reverse ++ .ref a :: rest)) rfl (by rw [hml]; exact hsz) (Steps.refl _) (a := a) (by rw [eT]; exact q1) q2 (argsL := argsL) (rest := rest) hlen rfl (by show 2 * 0 + _ ≤ _; omega) d (fun _ _ => ⟨rfl, eT, (by show cells + rm.cells ≤ _; omega), (by show slots + rm.slots ≤ _; omega)⟩)
  dsimp only [Pt.U, Pt.locs, Pt.cells, Pt.slots] at X' l1 l2 l3 stp hQ
  subst l1 l2 l3
  obtain ⟨s₂, o, st2, r⟩ := H v T'.heap hQ.1 T' _ _ _ X' (Fr.app N hQ.2) rfl (by omega) (by omega)
  exact ⟨s₂, o, stp.trans st2, r⟩
theorem g_virtualUp {kx nx : Nat} (cx : Cx Z p s m meth c R kx nx own nm code maxL ret) {i W k' n' maxL' : Nat} {bytes : ByteArray} {ret' : Option FieldType} {rm : Room} {argsL : List Value} {Q' : Option Value → Heap → Prop} {x y : MethodName} {a : Addr} {C owner : String} (d : Dc code pc (.invokevirtual i) 3 pc') (w1 : (Jvm.Cond.methodLink own i x).before a0 Z = true) (w0 : (Jvm.Cond.sameMethod x.cls owner x.name x.desc).before a0 Z = true) (w2 : (Jvm.Cond.declares ⟨owner, x.name, x.desc⟩).before a0 Z = true) (w3 : (Jvm.Cond.initialized y.cls).before a0 Z = true) (w4 : (Jvm.Cond.code y bytes maxL' ret').before a0 Z = true) (w5 : (Jvm.Cond.selects C x y).before a0 Z = true) (w6 : (Jvm.Cond.instanceMethod y).before a0 Z = true) (hy : owner ≠ "java/lang/invoke/MethodHandle" ∧ owner ≠ "java/lang/invoke/VarHandle") (E : Exa Z h a C) (M : Met l Z y bytes maxL' ret' rm (.ref a :: argsL).toArray h Q') (hsz : Ls.size = maxL) (hlen : ∀ sig, parseMethodDescriptor x.desc = some sig → argsL.length = sig.parameters.length) (hf : rm.frames + 1 ≤ R.frames) (hW : (rest.map fun v => v.category).sum ≤ W) (hl : W + (maxL' + 11) + rm.locals ≤ R.locals) (hk1 : k + rm.cells = k') (hn1 : n + rm.slots = n') (hkR : k' ≤ R.cells) (hnR : n' ≤ R.slots)
    (hst : st = argsL.reverse ++ .ref a :: rest) (H : ∀ v h', Q' v h' → G p l e R s m args below meth c Z.heap.size Q h' k' n' pc' Ls (v.toList ++ rest)) : G p l e R s m args below meth c Z.heap.size Q h k n pc Ls st := by
  obtain ⟨hx, hZ, hown, rfl, hml, hret, hnm, -⟩ := cx
  obtain ⟨d, rfl⟩ := d
  subst hk1 hn1 hst
  intro T locs cells slots X N eT hk hn
  obtain ⟨cq, kq, q1, q2, q3⟩ := isOf hZ eT E
  obtain ⟨v, _, ⟨T', L', k1', n1'⟩, -, X', ⟨Lc, hQ, l1, l2, l3⟩, stp⟩ := X.virtualBackUp hx (x := x) (y := y) hown (mvT hZ w1) (mvT hZ w0) (mvT hZ w2) hy (mvT hZ w5) (mvT hZ w6) (backOf (W := W) (Q := fun v h L => Q' v h ∧ Fr Z.heap.size L) (M []) hZ w4 w3 hf hl) q1 q3 (g := mkF m pc Ls (argsL.reverse ++ .ref a :: rest)) rfl (by rw [hml]; exact hsz) (Steps.refl _) (argsL := argsL) (rest := rest) hlen rfl (by show 2 * 0 + _ ≤ _; omega) d (fun _ _ => ⟨rfl, eT, (by show cells + rm.cells ≤ _; omega), (by show slots + rm.slots ≤ _; omega)⟩)
  dsimp only [Pt.U, Pt.locs, Pt.cells, Pt.slots] at X' l1 l2 l3 stp hQ
  subst l1 l2 l3
  obtain ⟨s₂, o, st2, r⟩ := H v T'.heap hQ.1 T' _ _ _ X' (Fr.app N hQ.2) rfl (by omega) (by omega)
  exact ⟨s₂, o, stp.trans st2, r⟩
theorem specialRef {T : State} {locs : List Loc} {cells slots : Nat} (X : Stand p l e R s m args below meth c T locs cells slots) (hexec : p.tables.exec = Jvm.exec) (hZ : Z.Warmed39 s.vm) {index : Nat} {y : MethodName} (hy1 : y.name = "<init>") (hown : s.vm.findClass own = some m.cls)
    (href : (Jvm.Cond.methodRef own index y).before a0 Z = true) (hinst : (Jvm.Cond.instanceMethod y).before a0 Z = true) {bytes : ByteArray} {mL : Nat} (hcode : (Jvm.Cond.code y bytes mL none).before a0 Z = true) (hy : y.cls ≠ "java/lang/invoke/MethodHandle" ∧ y.cls ≠ "java/lang/invoke/VarHandle")
    {W : Nat} {Pre : Pt → Array Value → Prop} {Post : Pt → Array Value → Option Value → Pt → Prop} (hK : Back l R p e below s args y 3 W Pre Post)
    {g : JFrame} (hg : g.method = m) (hsize : g.locals.size = c.maxLocals) {a : Addr} {argsL rest : List Value}
    (hlen : ∀ sig, parseMethodDescriptor y.desc = some sig → argsL.length = sig.parameters.length) (hstack : g.stack = argsL.reverse ++ .ref a :: rest) (hW : 2 * g.monitorRoom + (rest.map fun v => v.category).sum ≤ W)
    (hdg : decode c.code g.pc = .ok (.invokespecial index, 3)) (hpre : Pre ⟨T, locs, cells, slots⟩ (.ref a :: argsL).toArray) :
    ∃ (v : Option Value) (B : Pt), Stand p l e R s m args below meth c B.U B.locs B.cells B.slots ∧ Post ⟨T, locs, cells, slots⟩ (.ref a :: argsL).toArray v B ∧
      Steps p.tables e below (T.setTop g) (B.U.setTop { g with pc := g.pc + 3, stack := v.toList ++ rest }) := by
  have hZT : Z.Warmed39 T.vm := wtrans hZ X.warmed
  have hinst' : (Jvm.Cond.instanceMethod y).before args s = true := mvT hZ hinst
  have hcode' : (Jvm.Cond.code y bytes mL none).before args s = true := mvT hZ hcode
  obtain ⟨obj, methO, hnO, hmO, hstO, habO⟩ := Cond.instanceMethod_spec hinst'
  obtain ⟨methO', cO, hmO', hcO, hbO, hlO, -, hlockO, -, hsigO⟩ := Cond.code_spec hnO hcode'
  cases hmO.symm.trans hmO'
  obtain ⟨kO, hkO, hnameO⟩ := className_of_methodNamed hnO
  obtain ⟨hnameMO, hdescO⟩ := name_of_methodNamed hnO hmO
  obtain ⟨objZ, _, hnZ, -⟩ := Cond.instanceMethod_spec hinst
  have hr : (Jvm.Cond.methodRef own index y).before a0 (Z.setVm T.vm) = true := Cond.methodRef_warmed39 hZT hnZ hy href
  have hownT : (Z.setVm T.vm).vm.findClass own = some m.cls := by show T.vm.findClass own = _; rw [X.warmed.alike.findClass]; exact hown
  obtain ⟨m', c', hm', hready, hfind, hnamed⟩ := Cond.methodRef_named e hownT hr
  have hf0 : s.methodFound? y.cls y.name y.desc = some obj := State.methodFound?_of_named hnO hy
  have hf1 : (s.setVm T.vm).methodFound? y.cls y.name y.desc = some obj := (State.methodFound?_setVm_of_named X.warmed.alike hnO hy).trans hf0
  have hf2 : (Z.setVm T.vm).methodFound? y.cls y.name y.desc = some obj := hf1
  cases hf2.symm.trans hm'
  have hcc : c' = obj.cls := by
    have h1 : T.vm.findClass y.cls = some c' := hfind
    rw [X.warmed.alike.findClass, findClass_of_methodNamed hnO] at h1
    exact (Option.some.inj h1).symm
  subst hcc
  obtain ⟨kO₂, hkO₂, heO₂⟩ := X.warmed.alike.2.2 _ _ hkO
  have hmO₂ : T.vm.method? obj = some methO := by rw [X.warmed.alike.method?]; exact hmO
  have hfound : lookupSpecial T.vm obj.cls "<init>" methO.desc = .method obj := by
    rw [X.warmed.alike.lookupSpecial, hdescO, ← hy1]; exact lookupSpecial_of_named hnO hmO hstO
  obtain ⟨v, B, X', hpost, hsteps⟩ := hK m meth c ⟨T, locs, cells, slots⟩ { g with stack := rest } (.invokespecial index) obj (.ref a :: argsL).toArray X hg hsize hdg hW (X.named hnO) hpre
  refine ⟨v, B, X', hpost, Steps.trans ?_ hsteps⟩
  subst hg
  jvm_step X.here [hexec, hdg, invokespecial.wp_init (e := e) (s := T) (k := kO₂) (meth := methO) (m := obj) (a := a) (args := argsL) (rest := rest) (f := g) X.here.top hnamed hready hkO₂ hmO₂ (by rw [hnameMO]; exact hy1) hstO habO hfound (hlen _ hsigO) hstack]
  intro acts
  rw [doInvoke_state]
  exact Steps.refl _
theorem g_specialRef {kx nx : Nat} (cx : Cx Z p s m meth c R kx nx own nm code maxL ret) {i W k' n' maxL' : Nat} {bytes : ByteArray} {ret' : Option FieldType} {rm : Room} {argsL : List Value} {Q' : Option Value → Heap → Prop} {y : MethodName} {a : Addr} (d : Dc code pc (.invokespecial i) 3 pc') (hyn : y.name = "<init>") (hr0 : ret' = none) (w1 : (Jvm.Cond.methodRef own i y).before a0 Z = true) (w2 : (Jvm.Cond.instanceMethod y).before a0 Z = true) (w3 : (Jvm.Cond.initialized y.cls).before a0 Z = true) (w4 : (Jvm.Cond.code y bytes maxL' ret').before a0 Z = true) (hy : y.cls ≠ "java/lang/invoke/MethodHandle" ∧ y.cls ≠ "java/lang/invoke/VarHandle") (M : Met l Z y bytes maxL' ret' rm (.ref a :: argsL).toArray h Q') (hsz : Ls.size = maxL) (hlen : ∀ sig, parseMethodDescriptor y.desc = some sig → argsL.length = sig.parameters.length) (hf : rm.frames + 1 ≤ R.frames) (hW : (rest.map fun v => v.category).sum ≤ W) (hl : W + (maxL' + 11) + rm.locals ≤ R.locals) (hk1 : k + rm.cells = k') (hn1 : n + rm.slots = n') (hkR : k' ≤ R.cells) (hnR : n' ≤ R.slots)
    (hst : st = argsL.reverse ++ .ref a :: rest) (H : ∀ v h', Q' v h' → G p l e R s m args below meth c Z.heap.size Q h' k' n' pc' Ls (v.toList ++ rest)) : G p l e R s m args below meth c Z.heap.size Q h k n pc Ls st := by
  obtain ⟨hx, hZ, hown, rfl, hml, hret, hnm, -⟩ := cx
  obtain ⟨d, rfl⟩ := d
  subst hk1 hn1 hst
  intro T locs cells slots X N eT hk hn
  subst hr0
  obtain ⟨v, ⟨T', L', k1', n1'⟩, X', ⟨Lc, hQ, l1, l2, l3⟩, stp⟩ := specialRef X hx hZ (y := y) hyn hown w1 w2 w4 hy (backOf (W := W) (Q := fun v h L => Q' v h ∧ Fr Z.heap.size L) (M []) hZ w4 w3 hf hl) (g := mkF m pc Ls (argsL.reverse ++ .ref a :: rest)) rfl (by rw [hml]; exact hsz) (a := a) (argsL := argsL) (rest := rest) hlen rfl (by show 2 * 0 + _ ≤ _; omega) d ⟨rfl, eT, (by show cells + rm.cells ≤ _; omega), (by show slots + rm.slots ≤ _; omega)⟩
  dsimp only [Pt.U, Pt.locs, Pt.cells, Pt.slots] at X' l1 l2 l3 stp hQ
  subst l1 l2 l3
  obtain ⟨s₂, o, st2, r⟩ := H v T'.heap hQ.1 T' _ _ _ X' (Fr.app N hQ.2) rfl (by omega) (by omega)
  exact ⟨s₂, o, stp.trans st2, r⟩
theorem g_lsw {kx nx : Nat} (cx : Cx Z p s m meth c R kx nx own nm code maxL ret) {x : Int32} {dflt : Int} {pairs : Array (Int × Int)} {len : Nat} (d : decode code pc = .ok (.lookupswitch dflt pairs, len)) (hs : (pairs.toList.zip (pairs.toList.drop 1)).all (fun (a, next) => a.1 < next.1) = true) {off : Int} (hf : ((pairs.find? (·.1 == x.toInt)).map (·.2)).getD dflt = off) (h0 : 0 ≤ (pc : Int) + off) (hp : ((pc : Int) + off).toNat = pc') (H : G p l e R s m args below meth c Z.heap.size Q h k n pc' Ls st) : G p l e R s m args below meth c Z.heap.size Q h k n pc Ls (.int x :: st) := by
  obtain ⟨hx, hZ, hown, rfl, hml, hret, hnm, -⟩ := cx
  subst hp
  intro T locs cells slots X N eT hk hn
  obtain ⟨s₂, o, st2, r⟩ := H T locs cells slots X N eT hk hn
  cases hq : pairs.find? (·.1 == x.toInt) with
  | none =>
    rw [hq] at hf
    have hf' : dflt = off := hf
    subst hf'
    exact ⟨s₂, o, X.lookupswitchMiss hx (g := mkF m pc Ls (.int x :: st)) rfl rfl d hs hq h0 _ st2, r⟩
  | some ao =>
    rw [hq] at hf
    have hf' : ao.2 = off := hf
    subst hf'
    exact ⟨s₂, o, X.lookupswitchHit hx (g := mkF m pc Ls (.int x :: st)) rfl rfl d hs (a := ao.1) (off := ao.2) hq h0 _ st2, r⟩
theorem lsw_miss {x : Int32} {dflt : Int} {pairs : Array (Int × Int)} (q : ∀ a ∈ pairs.toList, a.1 ≠ x.toInt) : ((pairs.find? (·.1 == x.toInt)).map (·.2)).getD dflt = dflt := by rw [find_miss q]; rfl
theorem g_aaloadR {kx nx : Nat} (cx : Cx Z p s m meth c R kx nx own nm code maxL ret) {a : Addr} {cl : Cell} {j : Int32} {v : Value} {ty : FieldType} (d : Dc code pc .aaload 1 pc') (A : Arr Z h a cl ty) (hty : ty.isReference = true) (hj : ¬ (j < 0 ∨ cl.slots.size ≤ j.toNatClampNeg)) (hv : cl.slots[j.toNatClampNeg]? = some v) (H : G p l e R s m args below meth c Z.heap.size Q h k n pc' Ls (v :: st)) : G p l e R s m args below meth c Z.heap.size Q h k n pc Ls (.int j :: .ref a :: st) := by
  obtain ⟨hx, hZ, hown, rfl, hml, hret, hnm, -⟩ := cx
  obtain ⟨d, rfl⟩ := d
  intro T locs cells slots X N eT hk hn
  obtain ⟨s₂, o, st2, r⟩ := H T _ cells slots X N eT hk hn
  exact ⟨s₂, o, X.aaload hx (j := j) (v := v) (by rw [eT]; exact A.1) (State.isArrayOf_alike hZ.alike A.2.1) hty A.2.2 hj hv (g := mkF m pc Ls (.int j :: .ref a :: st)) rfl rfl d _ st2, r⟩
theorem arr_len {t : Term} {a : Addr} {cl : Cell} {ty : FieldType} {z : Int32} (ev : t.eval args Z none [] Z = some (.ref a)) (A : Arr Z Z.heap a cl ty) (h3 : (Jvm.Cond.eq (.length t) (.int z)).value args Z none Z [] = some true) : cl.slots.size < 2 ^ 31 ∧ cl.slots.size.toInt32 = z := by
  have ex := eqv_i (F := .int z) rfl h3
  have A1 := A.fin (Vm.Alike.refl _)
  have hl : cl.slots.size < 2 ^ 31 := by
    refine Decidable.byContradiction fun hc => ?_
    simp [Term.eval, ev, A1, hc] at ex
  rw [len_f ev A1 hl] at ex
  exact ⟨hl, by simpa using ex⟩
theorem sta_arr {C f d : String} {ty : FieldType} {z : Int32} (hi : (Jvm.Cond.initializedFor C f d).before args Z = true ∨ ((Jvm.Cond.initialized C).before args Z = true ∧ (Jvm.Cond.laysStatic C f d).before args Z = true)) (h1 : (Jvm.Cond.arrayOf (.static C f d) ty).value args Z none Z [] = some true) (h3 : (Jvm.Cond.eq (.length (.static C f d)) (.int z)).value args Z none Z [] = some true) :
    ∃ a cl, Sta Z Z.heap C f d (.ref a) ∧ (Term.static C f d).eval args Z none [] Z = some (.ref a) ∧ Arr Z Z.heap a cl ty ∧ cl.slots.size < 2 ^ 31 ∧ cl.slots.size.toInt32 = z := by
  obtain ⟨a, ev⟩ := arr_v h1
  obtain ⟨cl, A⟩ := Arr.start ev h1
  obtain ⟨q1, q2⟩ := arr_len ev A h3
  exact ⟨a, cl, Sta.start ev hi, ev, A, q1, q2⟩
theorem fld_exa {t : Term} {C f d K : String} {a : Addr} (ev : t.eval args Z none [] Z = some (.ref a)) (h : (Jvm.Cond.exactly (.field t C f d) K).value args Z none Z [] = some true) : ∃ b, Fld Z Z.heap a C f d (.ref b) ∧ Exa Z Z.heap b K ∧ (Term.field t C f d).eval args Z none [] Z = some (.ref b) := by
  obtain ⟨b, eb⟩ := exa_v h
  exact ⟨b, Fld.start ((fld_at ev).symm.trans eb), Exa.start eb h, eb⟩
theorem fld_arr {t : Term} {C f d : String} {a : Addr} {ty : FieldType} {z : Int32} (ev : t.eval args Z none [] Z = some (.ref a)) (h : (Jvm.Cond.arrayOf (.field t C f d) ty).value args Z none Z [] = some true) (h3 : (Jvm.Cond.eq (.length (.field t C f d)) (.int z)).value args Z none Z [] = some true) : ∃ b cl, Fld Z Z.heap a C f d (.ref b) ∧ (Term.field t C f d).eval args Z none [] Z = some (.ref b) ∧ Arr Z Z.heap b cl ty ∧ cl.slots.size < 2 ^ 31 ∧ cl.slots.size.toInt32 = z := by
  obtain ⟨b, eb⟩ := arr_v h
  obtain ⟨cl, A⟩ := Arr.start eb h
  obtain ⟨q1, q2⟩ := arr_len eb A h3
  exact ⟨b, cl, Fld.start ((fld_at ev).symm.trans eb), eb, A, q1, q2⟩
theorem elem_eq {t : Term} {a : Addr} {cl : Cell} {ty : FieldType} {j v : Int32} (ev : t.eval args Z none [] Z = some (.ref a)) (A : Arr Z Z.heap a cl ty) (h : (Jvm.Cond.eq (.elem t (.int j)) (.int v)).value args Z none Z [] = some true) : cl.slots[j.toNatClampNeg]? = some (.int v) := (elem_in (eqv_i (F := .int v) rfl h) ev rfl A.1).2
theorem nar1 : nar .boolean 1 = 1 := rfl
theorem nar0 : nar .boolean 0 = 0 := rfl
theorem sta_exa {C f d K : String} (hx : (Jvm.Cond.exactly (.static C f d) K).value args Z none Z [] = some true) (wi : (Jvm.Cond.initialized C).before args Z = true) (wl : (Jvm.Cond.laysStatic C f d).before args Z = true) : ∃ a, Sta Z Z.heap C f d (.ref a) ∧ Exa Z Z.heap a K ∧ (Term.static C f d).eval args Z none [] Z = some (.ref a) := by
  obtain ⟨a, ev⟩ := exa_v hx
  exact ⟨a, Sta.start ev (Or.inr ⟨wi, wl⟩), Exa.start ev hx, ev⟩
theorem fld_eq {t : Term} {C f d : String} {a : Addr} {v : Int32} (ev : t.eval args Z none [] Z = some (.ref a)) (h : (Jvm.Cond.eq (.field t C f d) (.int v)).value args Z none Z [] = some true) : Fld Z Z.heap a C f d (.int v) := by
  obtain ⟨x, y, ex, ey, -, k2⟩ := cmp_v (Or.inl h)
  have e2 : y = .int v := by simpa [Term.eval] using ey.symm
  subst e2
  obtain ⟨z, rfl⟩ := k2
  have hz : z = v := by simpa [Cond.value, ex, ey] using h
  subst hz
  rw [fld_at ev] at ex
  exact Fld.start ex
theorem sta_int {C f d : String} (hi : (Jvm.Cond.initializedFor C f d).before args Z = true) (h1 : (Jvm.Cond.isInt (.static C f d)).before args Z = true) : ∃ v, Sta Z Z.heap C f d (.int v) ∧ (Term.static C f d).eval args Z none [] Z = some (.int v) := by
  obtain ⟨v, ev⟩ := is_v (Cond.before_iff.mp h1)
  exact ⟨v, Sta.start ev (Or.inl hi), ev⟩
theorem ne_of_not {t : Term} {z v : Int32} (ev : t.eval args Z none [] Z = some (.int z)) (h : (Jvm.Cond.not (.eq t (.int v))).before args Z = true) : ¬ z = v := by
  have h2 := not_v (Cond.before_iff.mp h)
  intro q
  subst q
  simp [Cond.value, ev, Term.eval] at h2
theorem own_lrem (x y : Int64) (d : Int) (hy : y.toInt = d) : (0 ≤ x.toInt → (x % y).toInt = x.toInt % d) ∧ (x.toInt < 0 → (x % y).toInt = -((-x.toInt) % d)) := by
  rw [← lrem_mod]; exact c_lrem x y d hy
end Walk
def own_mx (u v : Int32) : Int32 := if u < v then v else u
def own_at (ys : List Int32) (j : Int32) : Int32 := ys.getD j.toNatClampNeg 0
abbrev own_P (ys : List Int32) (s t e : Int32) : Prop := ¬ t < e ∧ own_at ys (e - 1) = 10 ∧ ((own_at ys (e - 2) = 10 ∧ ¬ (e - 2) < s) ∨ (¬ e < 3 ∧ own_at ys (e - 2) = 13 ∧ own_at ys (e - 3) = 10 ∧ ¬ (e - 3) < s))
def own_ea (ys : List Int32) (s t e : Int32) : Int32 := if own_P ys s t e then 1 else 0
def own_M2 (ys : List Int32) (t i : Int32) : Prop := own_at ys i = 10 ∧ (i + 1) < t ∧ own_at ys (i + 1) = 10
def own_M3 (ys : List Int32) (t i : Int32) : Prop := own_at ys i = 10 ∧ (i + 2) < t ∧ own_at ys (i + 1) = 13 ∧ own_at ys (i + 2) = 10
def own_R (ys : List Int32) (s t r : Int32) : Prop := (r = -1 ∧ ∀ i, ¬ i < s → i < t → ¬ own_M2 ys t i ∧ ¬ own_M3 ys t i) ∨ (∃ i, ¬ i < s ∧ i < t ∧ (∀ j, ¬ j < s → j < i → ¬ own_M2 ys t j ∧ ¬ own_M3 ys t j) ∧ ((own_M2 ys t i ∧ r = i + 2) ∨ (¬ own_M2 ys t i ∧ own_M3 ys t i ∧ r = i + 3)))
theorem own_get (ys : List Int32) (j : Int32) : (ys.map Value.int).getD j.toNatClampNeg (.int 0) = .int (own_at ys j) := by
  simp only [own_at, List.getD_eq_getElem?_getD, List.getElem?_map]
  cases ys[j.toNatClampNeg]? <;> rfl
theorem own_lt8 {j t : Int32} (h : j < t) (h8 : ¬ 8 < t) : j < 8 := by
  rw [Int32.lt_iff_toInt_lt] at *; omega
theorem own_n {i t : Int32} (h0 : ¬ i < 0) (h1 : i < t) (h8 : ¬ 8 < t) : (i + 1).toInt = i.toInt + 1 ∧ (i + 2).toInt = i.toInt + 2 ∧ (i + 3).toInt = i.toInt + 3 ∧ 0 ≤ i.toInt ∧ i.toInt < 8 := by
  have z0 : (0 : Int32).toInt = 0 := rfl
  have z1 : (1 : Int32).toInt = 1 := rfl
  have z2 : (2 : Int32).toInt = 2 := rfl
  have z3 : (3 : Int32).toInt = 3 := rfl
  have z8 : (8 : Int32).toInt = 8 := rfl
  rw [Int32.lt_iff_toInt_lt] at h0 h1 h8
  have e1 := c_iadd i 1; have r1 := rng32 (i + 1)
  have e2 := c_iadd i 2; have r2 := rng32 (i + 2)
  have e3 := c_iadd i 3; have r3 := rng32 (i + 3)
  omega
theorem own_p1 {i t : Int32} (h0 : ¬ i < 0) (h1 : i < t) (h8 : ¬ 8 < t) : ¬ (i + 1) < 0 ∧ ¬ (i + 2) < 0 := by
  have q := own_n h0 h1 h8
  have z0 : (0 : Int32).toInt = 0 := rfl
  simp only [Int32.lt_iff_toInt_lt]; omega
theorem own_q1 {i t : Int32} (h0 : ¬ i < 0) (h1 : i < t) (h8 : ¬ 8 < t) (h2 : (i + 2) < t) : (i + 1) < 8 := by
  have q := own_n h0 h1 h8
  have z8 : (8 : Int32).toInt = 8 := rfl
  rw [Int32.lt_iff_toInt_lt] at *; omega
theorem own_ext {ys : List Int32} {s t i : Int32} (h0 : ¬ i < 0) (h1 : i < t) (h8 : ¬ 8 < t) (inv : ∀ j, ¬ j < s → j < i → ¬ own_M2 ys t j ∧ ¬ own_M3 ys t j) (hi : ¬ own_M2 ys t i ∧ ¬ own_M3 ys t i) : ∀ j, ¬ j < s → j < i + 1 → ¬ own_M2 ys t j ∧ ¬ own_M3 ys t j := by
  intro j a b
  have q := own_n h0 h1 h8
  by_cases e : j = i
  · subst e; exact hi
  · refine inv j a ?_
    rw [← Int32.toInt_inj] at e
    rw [Int32.lt_iff_toInt_lt] at b ⊢
    omega
theorem own_ms {i t : Int32} {n : Nat} (h0 : ¬ i < 0) (h1 : i < t) (h8 : ¬ 8 < t) (hn : t.toInt - i.toInt ≤ (n + 1 : Nat)) : t.toInt - (i + 1).toInt ≤ (n : Nat) := by
  have q := own_n h0 h1 h8
  omega
theorem own_sx {s i t : Int32} (h0 : ¬ i < 0) (h1 : i < t) (h8 : ¬ 8 < t) (h : ¬ i < s) : ¬ (i + 1) < s := by
  have q := own_n h0 h1 h8
  rw [Int32.lt_iff_toInt_lt] at *; omega
theorem own_k {e : Int32} (h2 : ¬ e < 2) (h8 : ¬ 8 < e) : (e - 1).toInt = e.toInt - 1 ∧ (e - 2).toInt = e.toInt - 2 ∧ (e - 3).toInt = e.toInt - 3 ∧ 2 ≤ e.toInt ∧ e.toInt ≤ 8 := by
  have z1 : (1 : Int32).toInt = 1 := rfl
  have z2 : (2 : Int32).toInt = 2 := rfl
  have z3 : (3 : Int32).toInt = 3 := rfl
  have z8 : (8 : Int32).toInt = 8 := rfl
  rw [Int32.lt_iff_toInt_lt] at h2 h8
  have e1 := c_isub e 1; have r1 := rng32 (e - 1)
  have e2 := c_isub e 2; have r2 := rng32 (e - 2)
  have e3 := c_isub e 3; have r3 := rng32 (e - 3)
  omega
theorem own_A {ys : List Int32} {s t e : Int32} (hs : ¬ s < 0) (ht : ¬ 8 < t) (h2 : ¬ e < 2) (h8 : ¬ 8 < e) (h : own_P ys s t e) : (¬ (e - 2) < s ∧ (e - 2) < t ∧ own_M2 ys t (e - 2)) ∨ (¬ (e - 3) < s ∧ (e - 3) < t ∧ own_M3 ys t (e - 3)) := by
  have q := own_k h2 h8
  obtain ⟨p1, p2, p3⟩ := h
  have a1 : e - 2 + 1 = e - 1 := by rw [← Int32.toInt_inj]; have := c_iadd (e - 2) 1; have := rng32 (e - 2 + 1); have z1 : (1 : Int32).toInt = 1 := rfl; omega
  have a2 : e - 3 + 1 = e - 2 := by rw [← Int32.toInt_inj]; have := c_iadd (e - 3) 1; have := rng32 (e - 3 + 1); have z1 : (1 : Int32).toInt = 1 := rfl; omega
  have a3 : e - 3 + 2 = e - 1 := by rw [← Int32.toInt_inj]; have := c_iadd (e - 3) 2; have := rng32 (e - 3 + 2); have z1 : (2 : Int32).toInt = 2 := rfl; omega
  rcases p3 with ⟨b1, b2⟩ | ⟨b0, b1, b2, b3⟩
  · refine Or.inl ⟨b2, ?_, b1, ?_, ?_⟩
    · rw [Int32.lt_iff_toInt_lt] at p1 ⊢; omega
    · rw [a1, Int32.lt_iff_toInt_lt]; rw [Int32.lt_iff_toInt_lt] at p1; omega
    · rw [a1]; exact p2
  · refine Or.inr ⟨b3, ?_, b2, ?_, ?_, ?_⟩
    · rw [Int32.lt_iff_toInt_lt] at p1 ⊢; omega
    · rw [a3, Int32.lt_iff_toInt_lt]; rw [Int32.lt_iff_toInt_lt] at p1; omega
    · rw [a2]; exact b1
    · rw [a3]; exact p2
theorem own_B2 {ys : List Int32} {s t i : Int32} (h0 : ¬ i < 0) (h1 : i < t) (h8 : ¬ 8 < t) (hs : ¬ i < s) (h : own_M2 ys t i) : own_P ys s t (i + 2) ∧ ¬ (i + 2) < 2 ∧ ¬ 8 < (i + 2) := by
  have q := own_n h0 h1 h8
  have z2 : (2 : Int32).toInt = 2 := rfl
  have z8 : (8 : Int32).toInt = 8 := rfl
  obtain ⟨m1, m2, m3⟩ := h
  have a1 : i + 2 - 1 = i + 1 := by rw [← Int32.toInt_inj]; have := c_isub (i + 2) 1; have := rng32 (i + 2 - 1); have z1 : (1 : Int32).toInt = 1 := rfl; omega
  have a2 : i + 2 - 2 = i := by rw [← Int32.toInt_inj]; have := c_isub (i + 2) 2; have := rng32 (i + 2 - 2); omega
  rw [Int32.lt_iff_toInt_lt] at m2 h8
  refine ⟨⟨?_, ?_, Or.inl ⟨?_, ?_⟩⟩, ?_, ?_⟩
  · rw [Int32.lt_iff_toInt_lt]; omega
  · rw [a1]; exact m3
  · rw [a2]; exact m1
  · rw [a2]; exact hs
  · rw [Int32.lt_iff_toInt_lt]; omega
  · rw [Int32.lt_iff_toInt_lt]; omega
theorem own_B3 {ys : List Int32} {s t i : Int32} (h0 : ¬ i < 0) (h1 : i < t) (h8 : ¬ 8 < t) (hs : ¬ i < s) (h : own_M3 ys t i) : own_P ys s t (i + 3) ∧ ¬ (i + 3) < 2 ∧ ¬ 8 < (i + 3) := by
  have q := own_n h0 h1 h8
  have z2 : (2 : Int32).toInt = 2 := rfl
  have z3 : (3 : Int32).toInt = 3 := rfl
  have z8 : (8 : Int32).toInt = 8 := rfl
  obtain ⟨m1, m2, m3, m4⟩ := h
  have a1 : i + 3 - 1 = i + 2 := by rw [← Int32.toInt_inj]; have := c_isub (i + 3) 1; have := rng32 (i + 3 - 1); have z1 : (1 : Int32).toInt = 1 := rfl; omega
  have a2 : i + 3 - 2 = i + 1 := by rw [← Int32.toInt_inj]; have := c_isub (i + 3) 2; have := rng32 (i + 3 - 2); omega
  have a3 : i + 3 - 3 = i := by rw [← Int32.toInt_inj]; have := c_isub (i + 3) 3; have := rng32 (i + 3 - 3); omega
  rw [Int32.lt_iff_toInt_lt] at m2 h8
  refine ⟨⟨?_, ?_, Or.inr ⟨?_, ?_, ?_, ?_⟩⟩, ?_, ?_⟩
  · rw [Int32.lt_iff_toInt_lt]; omega
  · rw [a1]; exact m4
  · rw [Int32.lt_iff_toInt_lt]; omega
  · rw [a2]; exact m3
  · rw [a3]; exact m1
  · rw [a3]; exact hs
  · rw [Int32.lt_iff_toInt_lt]; omega
  · rw [Int32.lt_iff_toInt_lt]; omega
theorem own_nn {s i : Int32} (hs : ¬ s < 0) (h : ¬ i < s) : ¬ i < 0 := by rw [Int32.lt_iff_toInt_lt] at *; omega
theorem own_finN {ys : List Int32} {s t r : Int32} (hs : ¬ s < 0) (ht : ¬ 8 < t) (hR : own_R ys s t r) (h : ∀ e, ¬ e < 2 → ¬ 8 < e → ¬ own_P ys s t e) : r = -1 := by
  rcases hR with ⟨q, -⟩ | ⟨i, a, b, -, ⟨m, -⟩ | ⟨-, m, -⟩⟩
  · exact q
  · obtain ⟨p1, p2, p3⟩ := own_B2 (own_nn hs a) b ht a m
    exact absurd p1 (h _ p2 p3)
  · obtain ⟨p1, p2, p3⟩ := own_B3 (own_nn hs a) b ht a m
    exact absurd p1 (h _ p2 p3)
theorem own_fin {ys : List Int32} {s t r k : Int32} (hs : ¬ s < 0) (ht : ¬ 8 < t) (hR : own_R ys s t r) (h2 : ¬ k < 2) (h8 : ¬ 8 < k) (h : ∀ e, ¬ e < 2 → e < k → ¬ own_P ys s t e) (hk : own_P ys s t k) : r = k := by
  have qk := own_k h2 h8
  have hA := own_A hs ht h2 h8 hk
  rcases hR with ⟨-, q⟩ | ⟨i, a, b, mn, m⟩
  · rcases hA with ⟨c1, c2, c3⟩ | ⟨c1, c2, c3⟩
    · exact absurd c3 (q _ c1 c2).1
    · exact absurd c3 (q _ c1 c2).2
  · have qi := own_n (own_nn hs a) b ht
    rw [← Int32.toInt_inj]
    rcases m with ⟨m, rfl⟩ | ⟨nm, m, rfl⟩
    · obtain ⟨p1, p2, p3⟩ := own_B2 (own_nn hs a) b ht a m
      have lo : ¬ (i + 2) < k := fun z => h _ p2 z p1
      rw [Int32.lt_iff_toInt_lt] at lo
      rcases hA with ⟨c1, c2, c3⟩ | ⟨c1, c2, c3⟩
      · have u : ¬ (k - 2) < i := fun z => (mn _ c1 z).1 c3
        rw [Int32.lt_iff_toInt_lt] at u; omega
      · have u : ¬ (k - 3) < i := fun z => (mn _ c1 z).2 c3
        rw [Int32.lt_iff_toInt_lt] at u; omega
    · obtain ⟨p1, p2, p3⟩ := own_B3 (own_nn hs a) b ht a m
      have lo : ¬ (i + 3) < k := fun z => h _ p2 z p1
      rw [Int32.lt_iff_toInt_lt] at lo
      rcases hA with ⟨c1, c2, c3⟩ | ⟨c1, c2, c3⟩
      · have u : ¬ (k - 2) < i := fun z => (mn _ c1 z).1 c3
        have u2 : ¬ i = k - 2 := fun z => nm (z ▸ c3)
        rw [Int32.lt_iff_toInt_lt] at u; rw [← Int32.toInt_inj] at u2; omega
      · have u : ¬ (k - 3) < i := fun z => (mn _ c1 z).2 c3
        rw [Int32.lt_iff_toInt_lt] at u; omega
theorem own_ea0 {ys : List Int32} {s t e : Int32} (h : own_ea ys s t e = 0) : ¬ own_P ys s t e := fun p => by
  unfold own_ea at h; rw [if_pos p] at h; exact absurd h (by decide)
theorem own_ea1 {ys : List Int32} {s t e : Int32} (h : ¬ own_ea ys s t e = 0) : own_P ys s t e := Decidable.byContradiction fun p => by
  unfold own_ea at h; rw [if_neg p] at h; exact h rfl
theorem own_lits {e : Int32} (h2 : ¬ e < 2) (h8 : ¬ 8 < e) : e = 2 ∨ e = 3 ∨ e = 4 ∨ e = 5 ∨ e = 6 ∨ e = 7 ∨ e = 8 := by
  have q := own_k h2 h8
  have z2 : (2 : Int32).toInt = 2 := rfl
  have z3 : (3 : Int32).toInt = 3 := rfl
  have z4 : (4 : Int32).toInt = 4 := rfl
  have z5 : (5 : Int32).toInt = 5 := rfl
  have z6 : (6 : Int32).toInt = 6 := rfl
  have z7 : (7 : Int32).toInt = 7 := rfl
  have z8 : (8 : Int32).toInt = 8 := rfl
  simp only [← Int32.toInt_inj]; omega
theorem own_lt8e {e k : Int32} (h : e < k) (h8 : ¬ 8 < k) : ¬ 8 < e := by rw [Int32.lt_iff_toInt_lt] at *; omega
theorem own_to (t : Int32) : ¬ (t &&& 2147483647) % 9 < 0 ∧ ¬ 8 < (t &&& 2147483647) % 9 := by
  have e1 := c_mask t 2147483647 31 (by decide) (by decide)
  have e2 := (c_irem (t &&& 2147483647) 9 9 rfl).1 (by omega)
  have z0 : (0 : Int32).toInt = 0 := rfl
  have z8 : (8 : Int32).toInt = 8 := rfl
  simp only [Int32.lt_iff_toInt_lt]; omega
theorem own_t1 {t : Int32} (h : ¬ t < 0) (h8 : ¬ 8 < t) : t + 1 ≠ 0 ∧ 0 < (t + 1).toInt := by
  have z0 : (0 : Int32).toInt = 0 := rfl
  have z1 : (1 : Int32).toInt = 1 := rfl
  have z8 : (8 : Int32).toInt = 8 := rfl
  rw [Int32.lt_iff_toInt_lt] at h h8
  have e1 := c_iadd t 1; have r1 := rng32 (t + 1)
  refine ⟨fun z => ?_, by omega⟩
  have := congrArg Int32.toInt z
  omega
theorem own_st (f s t : Int32) (h : ¬ t < 0) (h8 : ¬ 8 < t) : ¬ own_mx ((f &&& 2147483647) % (t + 1)) ((s &&& 2147483647) % (t + 1) - 2) < 0 := by
  have e1 := c_mask f 2147483647 31 (by decide) (by decide)
  have e2 := (c_iremV (f &&& 2147483647) (t + 1)).1 (by omega) (own_t1 h h8).2
  have z0 : (0 : Int32).toInt = 0 := rfl
  unfold own_mx
  split
  · rename_i q; rw [Int32.lt_iff_toInt_lt] at q ⊢; omega
  · rw [Int32.lt_iff_toInt_lt]; omega
theorem d2_0 : Dc jdk_29_method_65_code 0 (.iload_n 0) 1 1 := ⟨by decide +kernel, rfl⟩
theorem d2_1 : Dc jdk_29_method_65_code 1 (.iload_n 1) 1 2 := ⟨by decide +kernel, rfl⟩
theorem d2_2 : Bi jdk_29_method_65_code 2 (Instr.if_icmp .lt) 9 5 := ⟨7, by decide +kernel, by decide, by decide, rfl⟩
theorem d2_9 : Dc jdk_29_method_65_code 9 (.iload_n 1) 1 10 := ⟨by decide +kernel, rfl⟩
theorem d2_10 : Dc jdk_29_method_65_code 10 (.ireturn) 1 11 := ⟨by decide +kernel, rfl⟩
theorem d2_5 : Dc jdk_29_method_65_code 5 (.iload_n 0) 1 6 := ⟨by decide +kernel, rfl⟩
theorem d2_6 : Bi jdk_29_method_65_code 6 (Instr.goto) 10 9 := ⟨4, by decide +kernel, by decide, by decide, rfl⟩
set_option maxRecDepth 65536 in
set_option maxHeartbeats 40000000 in
theorem rmM (l : Launch) (Z : State) (a0 : Array Value) (hw : ∀ d ∈ tables_1, d.before a0 Z = true) (u v : Int32) (h0 : Heap) :
    Met l Z (⟨"java/lang/Math", "max", "(II)I"⟩ : MethodName) jdk_29_method_65_code 2 (some .int) ({ frames := 0, cells := 0, slots := 0, locals := 0 } : Room) #[(.int u), (.int v)] h0 (fun v' h' => v' = some (.int (own_mx u v)) ∧ h0 = h') := by
  refine met_of (Ls := #[.val (.int u), .val (.int v)]) (Jvm.Free.JP.mathPlain rfl (by decide +kernel)) (fun m => by first | (simp [entryFrame, mkF, argsToLocals, Value.category]; done) | rfl) (fun p e s m below meth c cx => ?_)
  refine g_iloadN cx d2_0 rfl ?_
  refine g_iloadN cx d2_1 rfl ?_
  refine g_icmp_lt cx d2_2 (fun hc2 => ?_) (fun hc2 => ?_)
  · refine g_iloadN cx d2_9 rfl ?_
    refine g_retI cx d2_10 rfl (by decide) (by decide) ?_
    exact ⟨by simp [own_mx, hc2], rfl⟩
  · refine g_iloadN cx d2_5 rfl ?_
    refine g_goto cx d2_6 ?_
    refine g_retI cx d2_10 rfl (by decide) (by decide) ?_
    exact ⟨by simp [own_mx, hc2], rfl⟩
theorem d1_0 : Dc method_2_code 0 (.lload_n 0) 1 1 := ⟨by decide +kernel, rfl⟩
theorem d1_1 : Dc method_2_code 1 (.iconst 2) 1 2 := ⟨by decide +kernel, rfl⟩
theorem d1_2 : Dc method_2_code 2 (.iload 4) 2 4 := ⟨by decide +kernel, rfl⟩
theorem d1_4 : Dc method_2_code 4 (.imul) 1 5 := ⟨by decide +kernel, rfl⟩
theorem d1_5 : Dc method_2_code 5 (.lushr) 1 6 := ⟨by decide +kernel, rfl⟩
theorem d1_6 : Dc method_2_code 6 (.ldc2_w 7) 3 9 := ⟨by decide +kernel, rfl⟩
theorem d1_9 : Dc method_2_code 9 (.land) 1 10 := ⟨by decide +kernel, rfl⟩
theorem d1_10 : Dc method_2_code 10 (.l2i) 1 11 := ⟨by decide +kernel, rfl⟩
theorem d1_11 : Dc method_2_code 11 (.istore 5) 2 13 := ⟨by decide +kernel, rfl⟩
theorem d1_13 : Dc method_2_code 13 (.iload 5) 2 15 := ⟨by decide +kernel, rfl⟩
theorem d1_15 : Bi method_2_code 15 (Instr.ifCond .ne) 21 18 := ⟨6, by decide +kernel, by decide, by decide, rfl⟩
theorem d1_21 : Dc method_2_code 21 (.iload 5) 2 23 := ⟨by decide +kernel, rfl⟩
theorem d1_23 : Dc method_2_code 23 (.iconst 1) 1 24 := ⟨by decide +kernel, rfl⟩
theorem d1_24 : Bi method_2_code 24 (Instr.if_icmp .ne) 30 27 := ⟨6, by decide +kernel, by decide, by decide, rfl⟩
theorem d1_30 : Dc method_2_code 30 (.lload_n 2) 1 31 := ⟨by decide +kernel, rfl⟩
theorem d1_31 : Dc method_2_code 31 (.bipush 8) 2 33 := ⟨by decide +kernel, rfl⟩
theorem d1_33 : Dc method_2_code 33 (.iload 4) 2 35 := ⟨by decide +kernel, rfl⟩
theorem d1_35 : Dc method_2_code 35 (.imul) 1 36 := ⟨by decide +kernel, rfl⟩
theorem d1_36 : Dc method_2_code 36 (.lushr) 1 37 := ⟨by decide +kernel, rfl⟩
theorem d1_37 : Dc method_2_code 37 (.l2i) 1 38 := ⟨by decide +kernel, rfl⟩
theorem d1_38 : Dc method_2_code 38 (.i2b) 1 39 := ⟨by decide +kernel, rfl⟩
theorem d1_39 : Dc method_2_code 39 (.ireturn) 1 40 := ⟨by decide +kernel, rfl⟩
theorem d1_27 : Dc method_2_code 27 (.bipush 13) 2 29 := ⟨by decide +kernel, rfl⟩
theorem d1_29 : Dc method_2_code 29 (.ireturn) 1 30 := ⟨by decide +kernel, rfl⟩
theorem d1_18 : Dc method_2_code 18 (.bipush 10) 2 20 := ⟨by decide +kernel, rfl⟩
theorem d1_20 : Dc method_2_code 20 (.ireturn) 1 21 := ⟨by decide +kernel, rfl⟩
theorem pn_rmP : plainName "com/example/dyn_authz/dynauthz/service/RequestHeadEndPinLaw" = true := by first | (simp [plainName, overriddenIn]; done) | decide +kernel
set_option maxRecDepth 65536 in
set_option maxHeartbeats 40000000 in
theorem rmP (l : Launch) (Z : State) (a0 : Array Value) (hw : ∀ d ∈ tables_1, d.before a0 Z = true) (sl rv : Int64) (kk : Int32) (h0 : Heap) :
    Met l Z (⟨"com/example/dyn_authz/dynauthz/service/RequestHeadEndPinLaw", "pick", "(JJI)B"⟩ : MethodName) method_2_code 6 (some .byte) ({ frames := 0, cells := 0, slots := 0, locals := 0 } : Room) #[(.long sl), (.long rv), (.int kk)] h0 (fun v h' => ∃ z, v = some (.int z) ∧ h0 = h') := by
  refine met_of (Ls := #[.val (.long sl), .second, .val (.long rv), .second, .val (.int kk), .unset]) (plainFor_of_name pn_rmP) (fun m => by first | (simp [entryFrame, mkF, argsToLocals, Value.category]; done) | rfl) (fun p e s m below meth c cx => ?_)
  refine g_lloadN cx d1_0 rfl ?_
  refine g_iconst cx d1_1 (v := (2 : Int32)) rfl ?_
  refine g_iload cx d1_2 rfl ?_
  refine g_imul cx d1_4 ?_
  refine g_lushr cx d1_5 ?_
  refine g_ldcJ cx d1_6 (hw _ (List.mem_of_getElem? (i := 5) rfl)) ?_
  refine g_land cx d1_9 ?_
  refine g_l2i cx d1_10 ?_
  refine g_istore cx d1_11 (Ls' := #[.val (.long sl), .second, .val (.long rv), .second, .val (.int kk), .val (.int ((((((sl).toUInt64 >>> (((2 : Int32) * kk) &&& 0x3f).toInt64.toUInt64).toInt64) &&& (3 : Int64))).toInt32))]) rfl ?_
  refine g_iload cx d1_13 rfl ?_
  refine g_if_ne cx d1_15 (fun hc15 => ?_) (fun hc15 => ?_)
  · refine g_iload cx d1_21 rfl ?_
    refine g_iconst cx d1_23 (v := (1 : Int32)) rfl ?_
    refine g_icmp_ne cx d1_24 (fun hc24 => ?_) (fun hc24 => ?_)
    · refine g_lloadN cx d1_30 rfl ?_
      refine g_bipush cx d1_31 (v := (8 : Int32)) rfl ?_
      refine g_iload cx d1_33 rfl ?_
      refine g_imul cx d1_35 ?_
      refine g_lushr cx d1_36 ?_
      refine g_l2i cx d1_37 ?_
      refine g_i2b cx d1_38 ?_
      refine g_retN cx d1_39 (t := .byte) rfl (by simp) (by decide) (by decide) ?_
      exact ⟨_, rfl, rfl⟩
    · refine g_bipush cx d1_27 (v := (13 : Int32)) rfl ?_
      refine g_retN cx d1_29 (t := .byte) rfl (by simp) (by decide) (by decide) ?_
      exact ⟨_, rfl, rfl⟩
  · refine g_bipush cx d1_18 (v := (10 : Int32)) rfl ?_
    refine g_retN cx d1_20 (t := .byte) rfl (by simp) (by decide) (by decide) ?_
    exact ⟨_, rfl, rfl⟩
theorem own_P2 (y0 y1 y2 y3 y4 y5 y6 y7 : Int32) (s t : Int32) : own_P [y0, y1, y2, y3, y4, y5, y6, y7] s t 2 ↔ (¬ t < 2 ∧ y1 = 10 ∧ ((y0 = 10 ∧ ¬ (0 : Int32) < s) ∨ (¬ (2 : Int32) < 3 ∧ y0 = 13 ∧ own_at [y0, y1, y2, y3, y4, y5, y6, y7] (2 - 3) = 10 ∧ ¬ (-1 : Int32) < s))) := Iff.rfl
theorem d3_0 : Dc method_3_code 0 (.iload_n 1) 1 1 := ⟨by decide +kernel, rfl⟩
theorem d3_1 : Dc method_3_code 1 (.iconst 2) 1 2 := ⟨by decide +kernel, rfl⟩
theorem d3_2 : Bi method_3_code 2 (Instr.if_icmp .lt) 10 5 := ⟨8, by decide +kernel, by decide, by decide, rfl⟩
theorem d3_5 : Dc method_3_code 5 (.iload_n 1) 1 6 := ⟨by decide +kernel, rfl⟩
theorem d3_6 : Dc method_3_code 6 (.iload_n 3) 1 7 := ⟨by decide +kernel, rfl⟩
theorem d3_7 : Bi method_3_code 7 (Instr.if_icmp .le) 12 10 := ⟨5, by decide +kernel, by decide, by decide, rfl⟩
theorem d3_12 : Dc method_3_code 12 (.aload_n 0) 1 13 := ⟨by decide +kernel, rfl⟩
theorem d3_13 : Dc method_3_code 13 (.iload_n 1) 1 14 := ⟨by decide +kernel, rfl⟩
theorem d3_14 : Dc method_3_code 14 (.iconst 1) 1 15 := ⟨by decide +kernel, rfl⟩
theorem d3_15 : Dc method_3_code 15 (.isub) 1 16 := ⟨by decide +kernel, rfl⟩
theorem d3_16 : Dc method_3_code 16 (.baload) 1 17 := ⟨by decide +kernel, rfl⟩
theorem d3_17 : Dc method_3_code 17 (.bipush 10) 2 19 := ⟨by decide +kernel, rfl⟩
theorem d3_19 : Bi method_3_code 19 (Instr.if_icmp .eq) 24 22 := ⟨5, by decide +kernel, by decide, by decide, rfl⟩
theorem d3_24 : Dc method_3_code 24 (.aload_n 0) 1 25 := ⟨by decide +kernel, rfl⟩
theorem d3_25 : Dc method_3_code 25 (.iload_n 1) 1 26 := ⟨by decide +kernel, rfl⟩
theorem d3_26 : Dc method_3_code 26 (.iconst 2) 1 27 := ⟨by decide +kernel, rfl⟩
theorem d3_27 : Dc method_3_code 27 (.isub) 1 28 := ⟨by decide +kernel, rfl⟩
theorem d3_28 : Dc method_3_code 28 (.baload) 1 29 := ⟨by decide +kernel, rfl⟩
theorem d3_29 : Dc method_3_code 29 (.bipush 10) 2 31 := ⟨by decide +kernel, rfl⟩
theorem d3_31 : Bi method_3_code 31 (Instr.if_icmp .ne) 43 34 := ⟨12, by decide +kernel, by decide, by decide, rfl⟩
theorem d3_43 : Dc method_3_code 43 (.iload_n 1) 1 44 := ⟨by decide +kernel, rfl⟩
theorem d3_44 : Dc method_3_code 44 (.iconst 3) 1 45 := ⟨by decide +kernel, rfl⟩
theorem d3_45 : Bi method_3_code 45 (Instr.if_icmp .lt) 79 48 := ⟨34, by decide +kernel, by decide, by decide, rfl⟩
theorem d3_79 : Dc method_3_code 79 (.iconst 0) 1 80 := ⟨by decide +kernel, rfl⟩
theorem d3_80 : Dc method_3_code 80 (.ireturn) 1 81 := ⟨by decide +kernel, rfl⟩
theorem d3_34 : Dc method_3_code 34 (.iload_n 1) 1 35 := ⟨by decide +kernel, rfl⟩
theorem d3_35 : Dc method_3_code 35 (.iconst 2) 1 36 := ⟨by decide +kernel, rfl⟩
theorem d3_36 : Dc method_3_code 36 (.isub) 1 37 := ⟨by decide +kernel, rfl⟩
theorem d3_37 : Dc method_3_code 37 (.iload_n 2) 1 38 := ⟨by decide +kernel, rfl⟩
theorem d3_38 : Bi method_3_code 38 (Instr.if_icmp .lt) 43 41 := ⟨5, by decide +kernel, by decide, by decide, rfl⟩
theorem d3_41 : Dc method_3_code 41 (.iconst 1) 1 42 := ⟨by decide +kernel, rfl⟩
theorem d3_42 : Dc method_3_code 42 (.ireturn) 1 43 := ⟨by decide +kernel, rfl⟩
theorem d3_22 : Dc method_3_code 22 (.iconst 0) 1 23 := ⟨by decide +kernel, rfl⟩
theorem d3_23 : Dc method_3_code 23 (.ireturn) 1 24 := ⟨by decide +kernel, rfl⟩
theorem d3_10 : Dc method_3_code 10 (.iconst 0) 1 11 := ⟨by decide +kernel, rfl⟩
theorem d3_11 : Dc method_3_code 11 (.ireturn) 1 12 := ⟨by decide +kernel, rfl⟩
theorem pn_rmE2 : plainName "com/example/dyn_authz/dynauthz/service/RequestHeadEndPinLaw" = true := by first | (simp [plainName, overriddenIn]; done) | decide +kernel
set_option maxRecDepth 65536 in
set_option maxHeartbeats 40000000 in
theorem rmE2 (l : Launch) (Z : State) (a0 : Array Value) (hw : ∀ d ∈ tables_1, d.before a0 Z = true) (a : Addr) (sg t : Int32) (y0 y1 y2 y3 y4 y5 y6 y7 : Int32) (cA : ClassId) (h0 : Heap) (A_a : Arx Z h0 a cA .byte (8 : Int32) [(.int y0), (.int y1), (.int y2), (.int y3), (.int y4), (.int y5), (.int y6), (.int y7)] (.int (0 : Int32)) "[B") :
    Met l Z (⟨"com/example/dyn_authz/dynauthz/service/RequestHeadEndPinLaw", "endsAt", "([BIII)Z"⟩ : MethodName) method_3_code 4 (some .boolean) ({ frames := 0, cells := 0, slots := 0, locals := 0 } : Room) #[(.ref a), (.int (2 : Int32)), (.int sg), (.int t)] h0 (fun v h' => v = some (.int (own_ea [y0, y1, y2, y3, y4, y5, y6, y7] sg t 2)) ∧ h0 = h') := by
  refine met_of (Ls := #[.val (.ref a), .val (.int (2 : Int32)), .val (.int sg), .val (.int t)]) (plainFor_of_name pn_rmE2) (fun m => by first | (simp [entryFrame, mkF, argsToLocals, Value.category]; done) | rfl) (fun p e s m below meth c cx => ?_)
  refine g_iloadN cx d3_0 rfl ?_
  refine g_iconst cx d3_1 (v := (2 : Int32)) rfl ?_
  refine g_icmp_lt cx d3_2 (fun q => absurd q (fun q => by revert q; decide)) (fun hc2 => ?_)
  refine g_iloadN cx d3_5 rfl ?_
  refine g_iloadN cx d3_6 rfl ?_
  refine g_icmp_le cx d3_7 (fun hc7 => ?_) (fun hc7 => ?_)
  · refine g_aloadN cx d3_12 rfl rfl ?_
    refine g_iloadN cx d3_13 rfl ?_
    refine g_iconst cx d3_14 (v := (1 : Int32)) rfl ?_
    refine g_isub cx d3_15 ?_
    refine G.cast (st' := [(.int (1 : Int32)), (.ref a)]) ?_ rfl
    refine g_baload cx d3_16 A_a.1 ⟨by decide, by decide⟩ (v := (.int y1)) rfl ?_
    refine g_bipush cx d3_17 (v := (10 : Int32)) rfl ?_
    refine g_icmp_eq cx d3_19 (fun hc19 => ?_) (fun hc19 => ?_)
    · refine g_aloadN cx d3_24 rfl rfl ?_
      refine g_iloadN cx d3_25 rfl ?_
      refine g_iconst cx d3_26 (v := (2 : Int32)) rfl ?_
      refine g_isub cx d3_27 ?_
      refine G.cast (st' := [(.int (0 : Int32)), (.ref a)]) ?_ rfl
      refine g_baload cx d3_28 A_a.1 ⟨by decide, by decide⟩ (v := (.int y0)) rfl ?_
      refine g_bipush cx d3_29 (v := (10 : Int32)) rfl ?_
      refine g_icmp_ne cx d3_31 (fun hc31 => ?_) (fun hc31 => ?_)
      · refine g_iloadN cx d3_43 rfl ?_
        refine g_iconst cx d3_44 (v := (3 : Int32)) rfl ?_
        refine g_icmp_lt cx d3_45 (fun hc45 => ?_) (fun q => absurd q (fun q => by revert q; decide))
        refine g_iconst cx d3_79 (v := (0 : Int32)) rfl ?_
        refine g_retZ cx d3_80 rfl rfl (by decide) (by decide) ?_
        refine ⟨?_, rfl⟩
        first | (simp [own_ea, own_P2, hc7, hc19, hc31]; done) | (exfalso; simp_all; done) | (simp only [own_ea, own_P2]; simp_all)
      · refine g_iloadN cx d3_34 rfl ?_
        refine g_iconst cx d3_35 (v := (2 : Int32)) rfl ?_
        refine g_isub cx d3_36 ?_
        refine G.cast (st' := [(.int (0 : Int32))]) ?_ rfl
        refine g_iloadN cx d3_37 rfl ?_
        refine g_icmp_lt cx d3_38 (fun hc38 => ?_) (fun hc38 => ?_)
        · refine g_iloadN cx d3_43 rfl ?_
          refine g_iconst cx d3_44 (v := (3 : Int32)) rfl ?_
          refine g_icmp_lt cx d3_45 (fun hc45 => ?_) (fun q => absurd q (fun q => by revert q; decide))
          refine g_iconst cx d3_79 (v := (0 : Int32)) rfl ?_
          refine g_retZ cx d3_80 rfl rfl (by decide) (by decide) ?_
          refine ⟨?_, rfl⟩
          first | (simp [own_ea, own_P2, hc7, hc19, hc31, hc38]; done) | (exfalso; simp_all; done) | (simp only [own_ea, own_P2]; simp_all)
        · refine g_iconst cx d3_41 (v := (1 : Int32)) rfl ?_
          refine g_retZ cx d3_42 rfl rfl (by decide) (by decide) ?_
          refine ⟨?_, rfl⟩
          first | (simp [own_ea, own_P2, hc7, hc19, hc31, hc38]; done) | (exfalso; simp_all; done) | (simp only [own_ea, own_P2]; simp_all)
    · refine g_iconst cx d3_22 (v := (0 : Int32)) rfl ?_
      refine g_retZ cx d3_23 rfl rfl (by decide) (by decide) ?_
      refine ⟨?_, rfl⟩
      first | (simp [own_ea, own_P2, hc7, hc19]; done) | (exfalso; simp_all; done) | (simp only [own_ea, own_P2]; simp_all)
  · refine g_iconst cx d3_10 (v := (0 : Int32)) rfl ?_
    refine g_retZ cx d3_11 rfl rfl (by decide) (by decide) ?_
    refine ⟨?_, rfl⟩
    first | (simp [own_ea, own_P2, hc7]; done) | (exfalso; simp_all; done) | (simp only [own_ea, own_P2]; simp_all)
theorem own_P3 (y0 y1 y2 y3 y4 y5 y6 y7 : Int32) (s t : Int32) : own_P [y0, y1, y2, y3, y4, y5, y6, y7] s t 3 ↔ (¬ t < 3 ∧ y2 = 10 ∧ ((y1 = 10 ∧ ¬ (1 : Int32) < s) ∨ (¬ (3 : Int32) < 3 ∧ y1 = 13 ∧ y0 = 10 ∧ ¬ (0 : Int32) < s))) := Iff.rfl
theorem d3_48 : Dc method_3_code 48 (.aload_n 0) 1 49 := ⟨by decide +kernel, rfl⟩
theorem d3_49 : Dc method_3_code 49 (.iload_n 1) 1 50 := ⟨by decide +kernel, rfl⟩
theorem d3_50 : Dc method_3_code 50 (.iconst 2) 1 51 := ⟨by decide +kernel, rfl⟩
theorem d3_51 : Dc method_3_code 51 (.isub) 1 52 := ⟨by decide +kernel, rfl⟩
theorem d3_52 : Dc method_3_code 52 (.baload) 1 53 := ⟨by decide +kernel, rfl⟩
theorem d3_53 : Dc method_3_code 53 (.bipush 13) 2 55 := ⟨by decide +kernel, rfl⟩
theorem d3_55 : Bi method_3_code 55 (Instr.if_icmp .ne) 79 58 := ⟨24, by decide +kernel, by decide, by decide, rfl⟩
theorem d3_58 : Dc method_3_code 58 (.aload_n 0) 1 59 := ⟨by decide +kernel, rfl⟩
theorem d3_59 : Dc method_3_code 59 (.iload_n 1) 1 60 := ⟨by decide +kernel, rfl⟩
theorem d3_60 : Dc method_3_code 60 (.iconst 3) 1 61 := ⟨by decide +kernel, rfl⟩
theorem d3_61 : Dc method_3_code 61 (.isub) 1 62 := ⟨by decide +kernel, rfl⟩
theorem d3_62 : Dc method_3_code 62 (.baload) 1 63 := ⟨by decide +kernel, rfl⟩
theorem d3_63 : Dc method_3_code 63 (.bipush 10) 2 65 := ⟨by decide +kernel, rfl⟩
theorem d3_65 : Bi method_3_code 65 (Instr.if_icmp .ne) 79 68 := ⟨14, by decide +kernel, by decide, by decide, rfl⟩
theorem d3_68 : Dc method_3_code 68 (.iload_n 1) 1 69 := ⟨by decide +kernel, rfl⟩
theorem d3_69 : Dc method_3_code 69 (.iconst 3) 1 70 := ⟨by decide +kernel, rfl⟩
theorem d3_70 : Dc method_3_code 70 (.isub) 1 71 := ⟨by decide +kernel, rfl⟩
theorem d3_71 : Dc method_3_code 71 (.iload_n 2) 1 72 := ⟨by decide +kernel, rfl⟩
theorem d3_72 : Bi method_3_code 72 (Instr.if_icmp .lt) 79 75 := ⟨7, by decide +kernel, by decide, by decide, rfl⟩
theorem d3_75 : Dc method_3_code 75 (.iconst 1) 1 76 := ⟨by decide +kernel, rfl⟩
theorem d3_76 : Bi method_3_code 76 (Instr.goto) 80 79 := ⟨4, by decide +kernel, by decide, by decide, rfl⟩
theorem pn_rmE3 : plainName "com/example/dyn_authz/dynauthz/service/RequestHeadEndPinLaw" = true := by first | (simp [plainName, overriddenIn]; done) | decide +kernel
set_option maxRecDepth 65536 in
set_option maxHeartbeats 40000000 in
theorem rmE3 (l : Launch) (Z : State) (a0 : Array Value) (hw : ∀ d ∈ tables_1, d.before a0 Z = true) (a : Addr) (sg t : Int32) (y0 y1 y2 y3 y4 y5 y6 y7 : Int32) (cA : ClassId) (h0 : Heap) (A_a : Arx Z h0 a cA .byte (8 : Int32) [(.int y0), (.int y1), (.int y2), (.int y3), (.int y4), (.int y5), (.int y6), (.int y7)] (.int (0 : Int32)) "[B") :
    Met l Z (⟨"com/example/dyn_authz/dynauthz/service/RequestHeadEndPinLaw", "endsAt", "([BIII)Z"⟩ : MethodName) method_3_code 4 (some .boolean) ({ frames := 0, cells := 0, slots := 0, locals := 0 } : Room) #[(.ref a), (.int (3 : Int32)), (.int sg), (.int t)] h0 (fun v h' => v = some (.int (own_ea [y0, y1, y2, y3, y4, y5, y6, y7] sg t 3)) ∧ h0 = h') := by
  refine met_of (Ls := #[.val (.ref a), .val (.int (3 : Int32)), .val (.int sg), .val (.int t)]) (plainFor_of_name pn_rmE3) (fun m => by first | (simp [entryFrame, mkF, argsToLocals, Value.category]; done) | rfl) (fun p e s m below meth c cx => ?_)
  refine g_iloadN cx d3_0 rfl ?_
  refine g_iconst cx d3_1 (v := (2 : Int32)) rfl ?_
  refine g_icmp_lt cx d3_2 (fun q => absurd q (fun q => by revert q; decide)) (fun hc2 => ?_)
  refine g_iloadN cx d3_5 rfl ?_
  refine g_iloadN cx d3_6 rfl ?_
  refine g_icmp_le cx d3_7 (fun hc7 => ?_) (fun hc7 => ?_)
  · refine g_aloadN cx d3_12 rfl rfl ?_
    refine g_iloadN cx d3_13 rfl ?_
    refine g_iconst cx d3_14 (v := (1 : Int32)) rfl ?_
    refine g_isub cx d3_15 ?_
    refine G.cast (st' := [(.int (2 : Int32)), (.ref a)]) ?_ rfl
    refine g_baload cx d3_16 A_a.1 ⟨by decide, by decide⟩ (v := (.int y2)) rfl ?_
    refine g_bipush cx d3_17 (v := (10 : Int32)) rfl ?_
    refine g_icmp_eq cx d3_19 (fun hc19 => ?_) (fun hc19 => ?_)
    · refine g_aloadN cx d3_24 rfl rfl ?_
      refine g_iloadN cx d3_25 rfl ?_
      refine g_iconst cx d3_26 (v := (2 : Int32)) rfl ?_
      refine g_isub cx d3_27 ?_
      refine G.cast (st' := [(.int (1 : Int32)), (.ref a)]) ?_ rfl
      refine g_baload cx d3_28 A_a.1 ⟨by decide, by decide⟩ (v := (.int y1)) rfl ?_
      refine g_bipush cx d3_29 (v := (10 : Int32)) rfl ?_
      refine g_icmp_ne cx d3_31 (fun hc31 => ?_) (fun hc31 => ?_)
      · refine g_iloadN cx d3_43 rfl ?_
        refine g_iconst cx d3_44 (v := (3 : Int32)) rfl ?_
        refine g_icmp_lt cx d3_45 (fun q => absurd q (fun q => by revert q; decide)) (fun hc45 => ?_)
        refine g_aloadN cx d3_48 rfl rfl ?_
        refine g_iloadN cx d3_49 rfl ?_
        refine g_iconst cx d3_50 (v := (2 : Int32)) rfl ?_
        refine g_isub cx d3_51 ?_
        refine G.cast (st' := [(.int (1 : Int32)), (.ref a)]) ?_ rfl
        refine g_baload cx d3_52 A_a.1 ⟨by decide, by decide⟩ (v := (.int y1)) rfl ?_
        refine g_bipush cx d3_53 (v := (13 : Int32)) rfl ?_
        refine g_icmp_ne cx d3_55 (fun hc55 => ?_) (fun hc55 => ?_)
        · refine g_iconst cx d3_79 (v := (0 : Int32)) rfl ?_
          refine g_retZ cx d3_80 rfl rfl (by decide) (by decide) ?_
          refine ⟨?_, rfl⟩
          first | (simp [own_ea, own_P3, hc7, hc19, hc31, hc55]; done) | (exfalso; simp_all; done) | (simp only [own_ea, own_P3]; simp_all)
        · refine g_aloadN cx d3_58 rfl rfl ?_
          refine g_iloadN cx d3_59 rfl ?_
          refine g_iconst cx d3_60 (v := (3 : Int32)) rfl ?_
          refine g_isub cx d3_61 ?_
          refine G.cast (st' := [(.int (0 : Int32)), (.ref a)]) ?_ rfl
          refine g_baload cx d3_62 A_a.1 ⟨by decide, by decide⟩ (v := (.int y0)) rfl ?_
          refine g_bipush cx d3_63 (v := (10 : Int32)) rfl ?_
          refine g_icmp_ne cx d3_65 (fun hc65 => ?_) (fun hc65 => ?_)
          · refine g_iconst cx d3_79 (v := (0 : Int32)) rfl ?_
            refine g_retZ cx d3_80 rfl rfl (by decide) (by decide) ?_
            refine ⟨?_, rfl⟩
            first | (simp [own_ea, own_P3, hc7, hc19, hc31, hc55, hc65]; done) | (exfalso; simp_all; done) | (simp only [own_ea, own_P3]; simp_all)
          · refine g_iloadN cx d3_68 rfl ?_
            refine g_iconst cx d3_69 (v := (3 : Int32)) rfl ?_
            refine g_isub cx d3_70 ?_
            refine G.cast (st' := [(.int (0 : Int32))]) ?_ rfl
            refine g_iloadN cx d3_71 rfl ?_
            refine g_icmp_lt cx d3_72 (fun hc72 => ?_) (fun hc72 => ?_)
            · refine g_iconst cx d3_79 (v := (0 : Int32)) rfl ?_
              refine g_retZ cx d3_80 rfl rfl (by decide) (by decide) ?_
              refine ⟨?_, rfl⟩
              first | (simp [own_ea, own_P3, hc7, hc19, hc31, hc55, hc65, hc72]; done) | (exfalso; simp_all; done) | (simp only [own_ea, own_P3]; simp_all)
            · refine g_iconst cx d3_75 (v := (1 : Int32)) rfl ?_
              refine g_goto cx d3_76 ?_
              refine g_retZ cx d3_80 rfl rfl (by decide) (by decide) ?_
              refine ⟨?_, rfl⟩
              first | (simp [own_ea, own_P3, hc7, hc19, hc31, hc55, hc65, hc72]; done) | (exfalso; simp_all; done) | (simp only [own_ea, own_P3]; simp_all)
      · refine g_iloadN cx d3_34 rfl ?_
        refine g_iconst cx d3_35 (v := (2 : Int32)) rfl ?_
        refine g_isub cx d3_36 ?_
        refine G.cast (st' := [(.int (1 : Int32))]) ?_ rfl
        refine g_iloadN cx d3_37 rfl ?_
        refine g_icmp_lt cx d3_38 (fun hc38 => ?_) (fun hc38 => ?_)
        · refine g_iloadN cx d3_43 rfl ?_
          refine g_iconst cx d3_44 (v := (3 : Int32)) rfl ?_
          refine g_icmp_lt cx d3_45 (fun q => absurd q (fun q => by revert q; decide)) (fun hc45 => ?_)
          refine g_aloadN cx d3_48 rfl rfl ?_
          refine g_iloadN cx d3_49 rfl ?_
          refine g_iconst cx d3_50 (v := (2 : Int32)) rfl ?_
          refine g_isub cx d3_51 ?_
          refine G.cast (st' := [(.int (1 : Int32)), (.ref a)]) ?_ rfl
          refine g_baload cx d3_52 A_a.1 ⟨by decide, by decide⟩ (v := (.int y1)) rfl ?_
          refine g_bipush cx d3_53 (v := (13 : Int32)) rfl ?_
          refine g_icmp_ne cx d3_55 (fun hc55 => ?_) (fun hc55 => ?_)
          · refine g_iconst cx d3_79 (v := (0 : Int32)) rfl ?_
            refine g_retZ cx d3_80 rfl rfl (by decide) (by decide) ?_
            refine ⟨?_, rfl⟩
            first | (simp [own_ea, own_P3, hc7, hc19, hc31, hc38, hc55]; done) | (exfalso; simp_all; done) | (simp only [own_ea, own_P3]; simp_all)
          · refine g_aloadN cx d3_58 rfl rfl ?_
            refine g_iloadN cx d3_59 rfl ?_
            refine g_iconst cx d3_60 (v := (3 : Int32)) rfl ?_
            refine g_isub cx d3_61 ?_
            refine G.cast (st' := [(.int (0 : Int32)), (.ref a)]) ?_ rfl
            refine g_baload cx d3_62 A_a.1 ⟨by decide, by decide⟩ (v := (.int y0)) rfl ?_
            refine g_bipush cx d3_63 (v := (10 : Int32)) rfl ?_
            refine g_icmp_ne cx d3_65 (fun hc65 => ?_) (fun hc65 => ?_)
            · refine g_iconst cx d3_79 (v := (0 : Int32)) rfl ?_
              refine g_retZ cx d3_80 rfl rfl (by decide) (by decide) ?_
              refine ⟨?_, rfl⟩
              first | (simp [own_ea, own_P3, hc7, hc19, hc31, hc38, hc55, hc65]; done) | (exfalso; simp_all; done) | (simp only [own_ea, own_P3]; simp_all)
            · refine g_iloadN cx d3_68 rfl ?_
              refine g_iconst cx d3_69 (v := (3 : Int32)) rfl ?_
              refine g_isub cx d3_70 ?_
              refine G.cast (st' := [(.int (0 : Int32))]) ?_ rfl
              refine g_iloadN cx d3_71 rfl ?_
              refine g_icmp_lt cx d3_72 (fun hc72 => ?_) (fun hc72 => ?_)
              · refine g_iconst cx d3_79 (v := (0 : Int32)) rfl ?_
                refine g_retZ cx d3_80 rfl rfl (by decide) (by decide) ?_
                refine ⟨?_, rfl⟩
                first | (simp [own_ea, own_P3, hc7, hc19, hc31, hc38, hc55, hc65, hc72]; done) | (exfalso; simp_all; done) | (simp only [own_ea, own_P3]; simp_all)
              · refine g_iconst cx d3_75 (v := (1 : Int32)) rfl ?_
                refine g_goto cx d3_76 ?_
                refine g_retZ cx d3_80 rfl rfl (by decide) (by decide) ?_
                refine ⟨?_, rfl⟩
                first | (simp [own_ea, own_P3, hc7, hc19, hc31, hc38, hc55, hc65, hc72]; done) | (exfalso; simp_all; done) | (simp only [own_ea, own_P3]; simp_all)
        · refine g_iconst cx d3_41 (v := (1 : Int32)) rfl ?_
          refine g_retZ cx d3_42 rfl rfl (by decide) (by decide) ?_
          refine ⟨?_, rfl⟩
          first | (simp [own_ea, own_P3, hc7, hc19, hc31, hc38]; done) | (exfalso; simp_all; done) | (simp only [own_ea, own_P3]; simp_all)
    · refine g_iconst cx d3_22 (v := (0 : Int32)) rfl ?_
      refine g_retZ cx d3_23 rfl rfl (by decide) (by decide) ?_
      refine ⟨?_, rfl⟩
      first | (simp [own_ea, own_P3, hc7, hc19]; done) | (exfalso; simp_all; done) | (simp only [own_ea, own_P3]; simp_all)
  · refine g_iconst cx d3_10 (v := (0 : Int32)) rfl ?_
    refine g_retZ cx d3_11 rfl rfl (by decide) (by decide) ?_
    refine ⟨?_, rfl⟩
    first | (simp [own_ea, own_P3, hc7]; done) | (exfalso; simp_all; done) | (simp only [own_ea, own_P3]; simp_all)
theorem own_P4 (y0 y1 y2 y3 y4 y5 y6 y7 : Int32) (s t : Int32) : own_P [y0, y1, y2, y3, y4, y5, y6, y7] s t 4 ↔ (¬ t < 4 ∧ y3 = 10 ∧ ((y2 = 10 ∧ ¬ (2 : Int32) < s) ∨ (¬ (4 : Int32) < 3 ∧ y2 = 13 ∧ y1 = 10 ∧ ¬ (1 : Int32) < s))) := Iff.rfl
theorem pn_rmE4 : plainName "com/example/dyn_authz/dynauthz/service/RequestHeadEndPinLaw" = true := by first | (simp [plainName, overriddenIn]; done) | decide +kernel
set_option maxRecDepth 65536 in
set_option maxHeartbeats 40000000 in
theorem rmE4 (l : Launch) (Z : State) (a0 : Array Value) (hw : ∀ d ∈ tables_1, d.before a0 Z = true) (a : Addr) (sg t : Int32) (y0 y1 y2 y3 y4 y5 y6 y7 : Int32) (cA : ClassId) (h0 : Heap) (A_a : Arx Z h0 a cA .byte (8 : Int32) [(.int y0), (.int y1), (.int y2), (.int y3), (.int y4), (.int y5), (.int y6), (.int y7)] (.int (0 : Int32)) "[B") :
    Met l Z (⟨"com/example/dyn_authz/dynauthz/service/RequestHeadEndPinLaw", "endsAt", "([BIII)Z"⟩ : MethodName) method_3_code 4 (some .boolean) ({ frames := 0, cells := 0, slots := 0, locals := 0 } : Room) #[(.ref a), (.int (4 : Int32)), (.int sg), (.int t)] h0 (fun v h' => v = some (.int (own_ea [y0, y1, y2, y3, y4, y5, y6, y7] sg t 4)) ∧ h0 = h') := by
  refine met_of (Ls := #[.val (.ref a), .val (.int (4 : Int32)), .val (.int sg), .val (.int t)]) (plainFor_of_name pn_rmE4) (fun m => by first | (simp [entryFrame, mkF, argsToLocals, Value.category]; done) | rfl) (fun p e s m below meth c cx => ?_)
  refine g_iloadN cx d3_0 rfl ?_
  refine g_iconst cx d3_1 (v := (2 : Int32)) rfl ?_
  refine g_icmp_lt cx d3_2 (fun q => absurd q (fun q => by revert q; decide)) (fun hc2 => ?_)
  refine g_iloadN cx d3_5 rfl ?_
  refine g_iloadN cx d3_6 rfl ?_
  refine g_icmp_le cx d3_7 (fun hc7 => ?_) (fun hc7 => ?_)
  · refine g_aloadN cx d3_12 rfl rfl ?_
    refine g_iloadN cx d3_13 rfl ?_
    refine g_iconst cx d3_14 (v := (1 : Int32)) rfl ?_
    refine g_isub cx d3_15 ?_
    refine G.cast (st' := [(.int (3 : Int32)), (.ref a)]) ?_ rfl
    refine g_baload cx d3_16 A_a.1 ⟨by decide, by decide⟩ (v := (.int y3)) rfl ?_
    refine g_bipush cx d3_17 (v := (10 : Int32)) rfl ?_
    refine g_icmp_eq cx d3_19 (fun hc19 => ?_) (fun hc19 => ?_)
    · refine g_aloadN cx d3_24 rfl rfl ?_
      refine g_iloadN cx d3_25 rfl ?_
      refine g_iconst cx d3_26 (v := (2 : Int32)) rfl ?_
      refine g_isub cx d3_27 ?_
      refine G.cast (st' := [(.int (2 : Int32)), (.ref a)]) ?_ rfl
      refine g_baload cx d3_28 A_a.1 ⟨by decide, by decide⟩ (v := (.int y2)) rfl ?_
      refine g_bipush cx d3_29 (v := (10 : Int32)) rfl ?_
      refine g_icmp_ne cx d3_31 (fun hc31 => ?_) (fun hc31 => ?_)
      · refine g_iloadN cx d3_43 rfl ?_
        refine g_iconst cx d3_44 (v := (3 : Int32)) rfl ?_
        refine g_icmp_lt cx d3_45 (fun q => absurd q (fun q => by revert q; decide)) (fun hc45 => ?_)
        refine g_aloadN cx d3_48 rfl rfl ?_
        refine g_iloadN cx d3_49 rfl ?_
        refine g_iconst cx d3_50 (v := (2 : Int32)) rfl ?_
        refine g_isub cx d3_51 ?_
        refine G.cast (st' := [(.int (2 : Int32)), (.ref a)]) ?_ rfl
        refine g_baload cx d3_52 A_a.1 ⟨by decide, by decide⟩ (v := (.int y2)) rfl ?_
        refine g_bipush cx d3_53 (v := (13 : Int32)) rfl ?_
        refine g_icmp_ne cx d3_55 (fun hc55 => ?_) (fun hc55 => ?_)
        · refine g_iconst cx d3_79 (v := (0 : Int32)) rfl ?_
          refine g_retZ cx d3_80 rfl rfl (by decide) (by decide) ?_
          refine ⟨?_, rfl⟩
          first | (simp [own_ea, own_P4, hc7, hc19, hc31, hc55]; done) | (exfalso; simp_all; done) | (simp only [own_ea, own_P4]; simp_all)
        · refine g_aloadN cx d3_58 rfl rfl ?_
          refine g_iloadN cx d3_59 rfl ?_
          refine g_iconst cx d3_60 (v := (3 : Int32)) rfl ?_
          refine g_isub cx d3_61 ?_
          refine G.cast (st' := [(.int (1 : Int32)), (.ref a)]) ?_ rfl
          refine g_baload cx d3_62 A_a.1 ⟨by decide, by decide⟩ (v := (.int y1)) rfl ?_
          refine g_bipush cx d3_63 (v := (10 : Int32)) rfl ?_
          refine g_icmp_ne cx d3_65 (fun hc65 => ?_) (fun hc65 => ?_)
          · refine g_iconst cx d3_79 (v := (0 : Int32)) rfl ?_
            refine g_retZ cx d3_80 rfl rfl (by decide) (by decide) ?_
            refine ⟨?_, rfl⟩
            first | (simp [own_ea, own_P4, hc7, hc19, hc31, hc55, hc65]; done) | (exfalso; simp_all; done) | (simp only [own_ea, own_P4]; simp_all)
          · refine g_iloadN cx d3_68 rfl ?_
            refine g_iconst cx d3_69 (v := (3 : Int32)) rfl ?_
            refine g_isub cx d3_70 ?_
            refine G.cast (st' := [(.int (1 : Int32))]) ?_ rfl
            refine g_iloadN cx d3_71 rfl ?_
            refine g_icmp_lt cx d3_72 (fun hc72 => ?_) (fun hc72 => ?_)
            · refine g_iconst cx d3_79 (v := (0 : Int32)) rfl ?_
              refine g_retZ cx d3_80 rfl rfl (by decide) (by decide) ?_
              refine ⟨?_, rfl⟩
              first | (simp [own_ea, own_P4, hc7, hc19, hc31, hc55, hc65, hc72]; done) | (exfalso; simp_all; done) | (simp only [own_ea, own_P4]; simp_all)
            · refine g_iconst cx d3_75 (v := (1 : Int32)) rfl ?_
              refine g_goto cx d3_76 ?_
              refine g_retZ cx d3_80 rfl rfl (by decide) (by decide) ?_
              refine ⟨?_, rfl⟩
              first | (simp [own_ea, own_P4, hc7, hc19, hc31, hc55, hc65, hc72]; done) | (exfalso; simp_all; done) | (simp only [own_ea, own_P4]; simp_all)
      · refine g_iloadN cx d3_34 rfl ?_
        refine g_iconst cx d3_35 (v := (2 : Int32)) rfl ?_
        refine g_isub cx d3_36 ?_
        refine G.cast (st' := [(.int (2 : Int32))]) ?_ rfl
        refine g_iloadN cx d3_37 rfl ?_
        refine g_icmp_lt cx d3_38 (fun hc38 => ?_) (fun hc38 => ?_)
        · refine g_iloadN cx d3_43 rfl ?_
          refine g_iconst cx d3_44 (v := (3 : Int32)) rfl ?_
          refine g_icmp_lt cx d3_45 (fun q => absurd q (fun q => by revert q; decide)) (fun hc45 => ?_)
          refine g_aloadN cx d3_48 rfl rfl ?_
          refine g_iloadN cx d3_49 rfl ?_
          refine g_iconst cx d3_50 (v := (2 : Int32)) rfl ?_
          refine g_isub cx d3_51 ?_
          refine G.cast (st' := [(.int (2 : Int32)), (.ref a)]) ?_ rfl
          refine g_baload cx d3_52 A_a.1 ⟨by decide, by decide⟩ (v := (.int y2)) rfl ?_
          refine g_bipush cx d3_53 (v := (13 : Int32)) rfl ?_
          refine g_icmp_ne cx d3_55 (fun hc55 => ?_) (fun hc55 => ?_)
          · refine g_iconst cx d3_79 (v := (0 : Int32)) rfl ?_
            refine g_retZ cx d3_80 rfl rfl (by decide) (by decide) ?_
            refine ⟨?_, rfl⟩
            first | (simp [own_ea, own_P4, hc7, hc19, hc31, hc38, hc55]; done) | (exfalso; simp_all; done) | (simp only [own_ea, own_P4]; simp_all)
          · refine g_aloadN cx d3_58 rfl rfl ?_
            refine g_iloadN cx d3_59 rfl ?_
            refine g_iconst cx d3_60 (v := (3 : Int32)) rfl ?_
            refine g_isub cx d3_61 ?_
            refine G.cast (st' := [(.int (1 : Int32)), (.ref a)]) ?_ rfl
            refine g_baload cx d3_62 A_a.1 ⟨by decide, by decide⟩ (v := (.int y1)) rfl ?_
            refine g_bipush cx d3_63 (v := (10 : Int32)) rfl ?_
            refine g_icmp_ne cx d3_65 (fun hc65 => ?_) (fun hc65 => ?_)
            · refine g_iconst cx d3_79 (v := (0 : Int32)) rfl ?_
              refine g_retZ cx d3_80 rfl rfl (by decide) (by decide) ?_
              refine ⟨?_, rfl⟩
              first | (simp [own_ea, own_P4, hc7, hc19, hc31, hc38, hc55, hc65]; done) | (exfalso; simp_all; done) | (simp only [own_ea, own_P4]; simp_all)
            · refine g_iloadN cx d3_68 rfl ?_
              refine g_iconst cx d3_69 (v := (3 : Int32)) rfl ?_
              refine g_isub cx d3_70 ?_
              refine G.cast (st' := [(.int (1 : Int32))]) ?_ rfl
              refine g_iloadN cx d3_71 rfl ?_
              refine g_icmp_lt cx d3_72 (fun hc72 => ?_) (fun hc72 => ?_)
              · refine g_iconst cx d3_79 (v := (0 : Int32)) rfl ?_
                refine g_retZ cx d3_80 rfl rfl (by decide) (by decide) ?_
                refine ⟨?_, rfl⟩
                first | (simp [own_ea, own_P4, hc7, hc19, hc31, hc38, hc55, hc65, hc72]; done) | (exfalso; simp_all; done) | (simp only [own_ea, own_P4]; simp_all)
              · refine g_iconst cx d3_75 (v := (1 : Int32)) rfl ?_
                refine g_goto cx d3_76 ?_
                refine g_retZ cx d3_80 rfl rfl (by decide) (by decide) ?_
                refine ⟨?_, rfl⟩
                first | (simp [own_ea, own_P4, hc7, hc19, hc31, hc38, hc55, hc65, hc72]; done) | (exfalso; simp_all; done) | (simp only [own_ea, own_P4]; simp_all)
        · refine g_iconst cx d3_41 (v := (1 : Int32)) rfl ?_
          refine g_retZ cx d3_42 rfl rfl (by decide) (by decide) ?_
          refine ⟨?_, rfl⟩
          first | (simp [own_ea, own_P4, hc7, hc19, hc31, hc38]; done) | (exfalso; simp_all; done) | (simp only [own_ea, own_P4]; simp_all)
    · refine g_iconst cx d3_22 (v := (0 : Int32)) rfl ?_
      refine g_retZ cx d3_23 rfl rfl (by decide) (by decide) ?_
      refine ⟨?_, rfl⟩
      first | (simp [own_ea, own_P4, hc7, hc19]; done) | (exfalso; simp_all; done) | (simp only [own_ea, own_P4]; simp_all)
  · refine g_iconst cx d3_10 (v := (0 : Int32)) rfl ?_
    refine g_retZ cx d3_11 rfl rfl (by decide) (by decide) ?_
    refine ⟨?_, rfl⟩
    first | (simp [own_ea, own_P4, hc7]; done) | (exfalso; simp_all; done) | (simp only [own_ea, own_P4]; simp_all)
theorem own_P5 (y0 y1 y2 y3 y4 y5 y6 y7 : Int32) (s t : Int32) : own_P [y0, y1, y2, y3, y4, y5, y6, y7] s t 5 ↔ (¬ t < 5 ∧ y4 = 10 ∧ ((y3 = 10 ∧ ¬ (3 : Int32) < s) ∨ (¬ (5 : Int32) < 3 ∧ y3 = 13 ∧ y2 = 10 ∧ ¬ (2 : Int32) < s))) := Iff.rfl
theorem pn_rmE5 : plainName "com/example/dyn_authz/dynauthz/service/RequestHeadEndPinLaw" = true := by first | (simp [plainName, overriddenIn]; done) | decide +kernel
set_option maxRecDepth 65536 in
set_option maxHeartbeats 40000000 in
theorem rmE5 (l : Launch) (Z : State) (a0 : Array Value) (hw : ∀ d ∈ tables_1, d.before a0 Z = true) (a : Addr) (sg t : Int32) (y0 y1 y2 y3 y4 y5 y6 y7 : Int32) (cA : ClassId) (h0 : Heap) (A_a : Arx Z h0 a cA .byte (8 : Int32) [(.int y0), (.int y1), (.int y2), (.int y3), (.int y4), (.int y5), (.int y6), (.int y7)] (.int (0 : Int32)) "[B") :
    Met l Z (⟨"com/example/dyn_authz/dynauthz/service/RequestHeadEndPinLaw", "endsAt", "([BIII)Z"⟩ : MethodName) method_3_code 4 (some .boolean) ({ frames := 0, cells := 0, slots := 0, locals := 0 } : Room) #[(.ref a), (.int (5 : Int32)), (.int sg), (.int t)] h0 (fun v h' => v = some (.int (own_ea [y0, y1, y2, y3, y4, y5, y6, y7] sg t 5)) ∧ h0 = h') := by
  refine met_of (Ls := #[.val (.ref a), .val (.int (5 : Int32)), .val (.int sg), .val (.int t)]) (plainFor_of_name pn_rmE5) (fun m => by first | (simp [entryFrame, mkF, argsToLocals, Value.category]; done) | rfl) (fun p e s m below meth c cx => ?_)
  refine g_iloadN cx d3_0 rfl ?_
  refine g_iconst cx d3_1 (v := (2 : Int32)) rfl ?_
  refine g_icmp_lt cx d3_2 (fun q => absurd q (fun q => by revert q; decide)) (fun hc2 => ?_)
  refine g_iloadN cx d3_5 rfl ?_
  refine g_iloadN cx d3_6 rfl ?_
  refine g_icmp_le cx d3_7 (fun hc7 => ?_) (fun hc7 => ?_)
  · refine g_aloadN cx d3_12 rfl rfl ?_
    refine g_iloadN cx d3_13 rfl ?_
    refine g_iconst cx d3_14 (v := (1 : Int32)) rfl ?_
    refine g_isub cx d3_15 ?_
    refine G.cast (st' := [(.int (4 : Int32)), (.ref a)]) ?_ rfl
    refine g_baload cx d3_16 A_a.1 ⟨by decide, by decide⟩ (v := (.int y4)) rfl ?_
    refine g_bipush cx d3_17 (v := (10 : Int32)) rfl ?_
    refine g_icmp_eq cx d3_19 (fun hc19 => ?_) (fun hc19 => ?_)
    · refine g_aloadN cx d3_24 rfl rfl ?_
      refine g_iloadN cx d3_25 rfl ?_
      refine g_iconst cx d3_26 (v := (2 : Int32)) rfl ?_
      refine g_isub cx d3_27 ?_
      refine G.cast (st' := [(.int (3 : Int32)), (.ref a)]) ?_ rfl
      refine g_baload cx d3_28 A_a.1 ⟨by decide, by decide⟩ (v := (.int y3)) rfl ?_
      refine g_bipush cx d3_29 (v := (10 : Int32)) rfl ?_
      refine g_icmp_ne cx d3_31 (fun hc31 => ?_) (fun hc31 => ?_)
      · refine g_iloadN cx d3_43 rfl ?_
        refine g_iconst cx d3_44 (v := (3 : Int32)) rfl ?_
        refine g_icmp_lt cx d3_45 (fun q => absurd q (fun q => by revert q; decide)) (fun hc45 => ?_)
        refine g_aloadN cx d3_48 rfl rfl ?_
        refine g_iloadN cx d3_49 rfl ?_
        refine g_iconst cx d3_50 (v := (2 : Int32)) rfl ?_
        refine g_isub cx d3_51 ?_
        refine G.cast (st' := [(.int (3 : Int32)), (.ref a)]) ?_ rfl
        refine g_baload cx d3_52 A_a.1 ⟨by decide, by decide⟩ (v := (.int y3)) rfl ?_
        refine g_bipush cx d3_53 (v := (13 : Int32)) rfl ?_
        refine g_icmp_ne cx d3_55 (fun hc55 => ?_) (fun hc55 => ?_)
        · refine g_iconst cx d3_79 (v := (0 : Int32)) rfl ?_
          refine g_retZ cx d3_80 rfl rfl (by decide) (by decide) ?_
          refine ⟨?_, rfl⟩
          first | (simp [own_ea, own_P5, hc7, hc19, hc31, hc55]; done) | (exfalso; simp_all; done) | (simp only [own_ea, own_P5]; simp_all)
        · refine g_aloadN cx d3_58 rfl rfl ?_
          refine g_iloadN cx d3_59 rfl ?_
          refine g_iconst cx d3_60 (v := (3 : Int32)) rfl ?_
          refine g_isub cx d3_61 ?_
          refine G.cast (st' := [(.int (2 : Int32)), (.ref a)]) ?_ rfl
          refine g_baload cx d3_62 A_a.1 ⟨by decide, by decide⟩ (v := (.int y2)) rfl ?_
          refine g_bipush cx d3_63 (v := (10 : Int32)) rfl ?_
          refine g_icmp_ne cx d3_65 (fun hc65 => ?_) (fun hc65 => ?_)
          · refine g_iconst cx d3_79 (v := (0 : Int32)) rfl ?_
            refine g_retZ cx d3_80 rfl rfl (by decide) (by decide) ?_
            refine ⟨?_, rfl⟩
            first | (simp [own_ea, own_P5, hc7, hc19, hc31, hc55, hc65]; done) | (exfalso; simp_all; done) | (simp only [own_ea, own_P5]; simp_all)
          · refine g_iloadN cx d3_68 rfl ?_
            refine g_iconst cx d3_69 (v := (3 : Int32)) rfl ?_
            refine g_isub cx d3_70 ?_
            refine G.cast (st' := [(.int (2 : Int32))]) ?_ rfl
            refine g_iloadN cx d3_71 rfl ?_
            refine g_icmp_lt cx d3_72 (fun hc72 => ?_) (fun hc72 => ?_)
            · refine g_iconst cx d3_79 (v := (0 : Int32)) rfl ?_
              refine g_retZ cx d3_80 rfl rfl (by decide) (by decide) ?_
              refine ⟨?_, rfl⟩
              first | (simp [own_ea, own_P5, hc7, hc19, hc31, hc55, hc65, hc72]; done) | (exfalso; simp_all; done) | (simp only [own_ea, own_P5]; simp_all)
            · refine g_iconst cx d3_75 (v := (1 : Int32)) rfl ?_
              refine g_goto cx d3_76 ?_
              refine g_retZ cx d3_80 rfl rfl (by decide) (by decide) ?_
              refine ⟨?_, rfl⟩
              first | (simp [own_ea, own_P5, hc7, hc19, hc31, hc55, hc65, hc72]; done) | (exfalso; simp_all; done) | (simp only [own_ea, own_P5]; simp_all)
      · refine g_iloadN cx d3_34 rfl ?_
        refine g_iconst cx d3_35 (v := (2 : Int32)) rfl ?_
        refine g_isub cx d3_36 ?_
        refine G.cast (st' := [(.int (3 : Int32))]) ?_ rfl
        refine g_iloadN cx d3_37 rfl ?_
        refine g_icmp_lt cx d3_38 (fun hc38 => ?_) (fun hc38 => ?_)
        · refine g_iloadN cx d3_43 rfl ?_
          refine g_iconst cx d3_44 (v := (3 : Int32)) rfl ?_
          refine g_icmp_lt cx d3_45 (fun q => absurd q (fun q => by revert q; decide)) (fun hc45 => ?_)
          refine g_aloadN cx d3_48 rfl rfl ?_
          refine g_iloadN cx d3_49 rfl ?_
          refine g_iconst cx d3_50 (v := (2 : Int32)) rfl ?_
          refine g_isub cx d3_51 ?_
          refine G.cast (st' := [(.int (3 : Int32)), (.ref a)]) ?_ rfl
          refine g_baload cx d3_52 A_a.1 ⟨by decide, by decide⟩ (v := (.int y3)) rfl ?_
          refine g_bipush cx d3_53 (v := (13 : Int32)) rfl ?_
          refine g_icmp_ne cx d3_55 (fun hc55 => ?_) (fun hc55 => ?_)
          · refine g_iconst cx d3_79 (v := (0 : Int32)) rfl ?_
            refine g_retZ cx d3_80 rfl rfl (by decide) (by decide) ?_
            refine ⟨?_, rfl⟩
            first | (simp [own_ea, own_P5, hc7, hc19, hc31, hc38, hc55]; done) | (exfalso; simp_all; done) | (simp only [own_ea, own_P5]; simp_all)
          · refine g_aloadN cx d3_58 rfl rfl ?_
            refine g_iloadN cx d3_59 rfl ?_
            refine g_iconst cx d3_60 (v := (3 : Int32)) rfl ?_
            refine g_isub cx d3_61 ?_
            refine G.cast (st' := [(.int (2 : Int32)), (.ref a)]) ?_ rfl
            refine g_baload cx d3_62 A_a.1 ⟨by decide, by decide⟩ (v := (.int y2)) rfl ?_
            refine g_bipush cx d3_63 (v := (10 : Int32)) rfl ?_
            refine g_icmp_ne cx d3_65 (fun hc65 => ?_) (fun hc65 => ?_)
            · refine g_iconst cx d3_79 (v := (0 : Int32)) rfl ?_
              refine g_retZ cx d3_80 rfl rfl (by decide) (by decide) ?_
              refine ⟨?_, rfl⟩
              first | (simp [own_ea, own_P5, hc7, hc19, hc31, hc38, hc55, hc65]; done) | (exfalso; simp_all; done) | (simp only [own_ea, own_P5]; simp_all)
            · refine g_iloadN cx d3_68 rfl ?_
              refine g_iconst cx d3_69 (v := (3 : Int32)) rfl ?_
              refine g_isub cx d3_70 ?_
              refine G.cast (st' := [(.int (2 : Int32))]) ?_ rfl
              refine g_iloadN cx d3_71 rfl ?_
              refine g_icmp_lt cx d3_72 (fun hc72 => ?_) (fun hc72 => ?_)
              · refine g_iconst cx d3_79 (v := (0 : Int32)) rfl ?_
                refine g_retZ cx d3_80 rfl rfl (by decide) (by decide) ?_
                refine ⟨?_, rfl⟩
                first | (simp [own_ea, own_P5, hc7, hc19, hc31, hc38, hc55, hc65, hc72]; done) | (exfalso; simp_all; done) | (simp only [own_ea, own_P5]; simp_all)
              · refine g_iconst cx d3_75 (v := (1 : Int32)) rfl ?_
                refine g_goto cx d3_76 ?_
                refine g_retZ cx d3_80 rfl rfl (by decide) (by decide) ?_
                refine ⟨?_, rfl⟩
                first | (simp [own_ea, own_P5, hc7, hc19, hc31, hc38, hc55, hc65, hc72]; done) | (exfalso; simp_all; done) | (simp only [own_ea, own_P5]; simp_all)
        · refine g_iconst cx d3_41 (v := (1 : Int32)) rfl ?_
          refine g_retZ cx d3_42 rfl rfl (by decide) (by decide) ?_
          refine ⟨?_, rfl⟩
          first | (simp [own_ea, own_P5, hc7, hc19, hc31, hc38]; done) | (exfalso; simp_all; done) | (simp only [own_ea, own_P5]; simp_all)
    · refine g_iconst cx d3_22 (v := (0 : Int32)) rfl ?_
      refine g_retZ cx d3_23 rfl rfl (by decide) (by decide) ?_
      refine ⟨?_, rfl⟩
      first | (simp [own_ea, own_P5, hc7, hc19]; done) | (exfalso; simp_all; done) | (simp only [own_ea, own_P5]; simp_all)
  · refine g_iconst cx d3_10 (v := (0 : Int32)) rfl ?_
    refine g_retZ cx d3_11 rfl rfl (by decide) (by decide) ?_
    refine ⟨?_, rfl⟩
    first | (simp [own_ea, own_P5, hc7]; done) | (exfalso; simp_all; done) | (simp only [own_ea, own_P5]; simp_all)
theorem own_P6 (y0 y1 y2 y3 y4 y5 y6 y7 : Int32) (s t : Int32) : own_P [y0, y1, y2, y3, y4, y5, y6, y7] s t 6 ↔ (¬ t < 6 ∧ y5 = 10 ∧ ((y4 = 10 ∧ ¬ (4 : Int32) < s) ∨ (¬ (6 : Int32) < 3 ∧ y4 = 13 ∧ y3 = 10 ∧ ¬ (3 : Int32) < s))) := Iff.rfl
theorem pn_rmE6 : plainName "com/example/dyn_authz/dynauthz/service/RequestHeadEndPinLaw" = true := by first | (simp [plainName, overriddenIn]; done) | decide +kernel
set_option maxRecDepth 65536 in
set_option maxHeartbeats 40000000 in
theorem rmE6 (l : Launch) (Z : State) (a0 : Array Value) (hw : ∀ d ∈ tables_1, d.before a0 Z = true) (a : Addr) (sg t : Int32) (y0 y1 y2 y3 y4 y5 y6 y7 : Int32) (cA : ClassId) (h0 : Heap) (A_a : Arx Z h0 a cA .byte (8 : Int32) [(.int y0), (.int y1), (.int y2), (.int y3), (.int y4), (.int y5), (.int y6), (.int y7)] (.int (0 : Int32)) "[B") :
    Met l Z (⟨"com/example/dyn_authz/dynauthz/service/RequestHeadEndPinLaw", "endsAt", "([BIII)Z"⟩ : MethodName) method_3_code 4 (some .boolean) ({ frames := 0, cells := 0, slots := 0, locals := 0 } : Room) #[(.ref a), (.int (6 : Int32)), (.int sg), (.int t)] h0 (fun v h' => v = some (.int (own_ea [y0, y1, y2, y3, y4, y5, y6, y7] sg t 6)) ∧ h0 = h') := by
  refine met_of (Ls := #[.val (.ref a), .val (.int (6 : Int32)), .val (.int sg), .val (.int t)]) (plainFor_of_name pn_rmE6) (fun m => by first | (simp [entryFrame, mkF, argsToLocals, Value.category]; done) | rfl) (fun p e s m below meth c cx => ?_)
  refine g_iloadN cx d3_0 rfl ?_
  refine g_iconst cx d3_1 (v := (2 : Int32)) rfl ?_
  refine g_icmp_lt cx d3_2 (fun q => absurd q (fun q => by revert q; decide)) (fun hc2 => ?_)
  refine g_iloadN cx d3_5 rfl ?_
  refine g_iloadN cx d3_6 rfl ?_
  refine g_icmp_le cx d3_7 (fun hc7 => ?_) (fun hc7 => ?_)
  · refine g_aloadN cx d3_12 rfl rfl ?_
    refine g_iloadN cx d3_13 rfl ?_
    refine g_iconst cx d3_14 (v := (1 : Int32)) rfl ?_
    refine g_isub cx d3_15 ?_
    refine G.cast (st' := [(.int (5 : Int32)), (.ref a)]) ?_ rfl
    refine g_baload cx d3_16 A_a.1 ⟨by decide, by decide⟩ (v := (.int y5)) rfl ?_
    refine g_bipush cx d3_17 (v := (10 : Int32)) rfl ?_
    refine g_icmp_eq cx d3_19 (fun hc19 => ?_) (fun hc19 => ?_)
    · refine g_aloadN cx d3_24 rfl rfl ?_
      refine g_iloadN cx d3_25 rfl ?_
      refine g_iconst cx d3_26 (v := (2 : Int32)) rfl ?_
      refine g_isub cx d3_27 ?_
      refine G.cast (st' := [(.int (4 : Int32)), (.ref a)]) ?_ rfl
      refine g_baload cx d3_28 A_a.1 ⟨by decide, by decide⟩ (v := (.int y4)) rfl ?_
      refine g_bipush cx d3_29 (v := (10 : Int32)) rfl ?_
      refine g_icmp_ne cx d3_31 (fun hc31 => ?_) (fun hc31 => ?_)
      · refine g_iloadN cx d3_43 rfl ?_
        refine g_iconst cx d3_44 (v := (3 : Int32)) rfl ?_
        refine g_icmp_lt cx d3_45 (fun q => absurd q (fun q => by revert q; decide)) (fun hc45 => ?_)
        refine g_aloadN cx d3_48 rfl rfl ?_
        refine g_iloadN cx d3_49 rfl ?_
        refine g_iconst cx d3_50 (v := (2 : Int32)) rfl ?_
        refine g_isub cx d3_51 ?_
        refine G.cast (st' := [(.int (4 : Int32)), (.ref a)]) ?_ rfl
        refine g_baload cx d3_52 A_a.1 ⟨by decide, by decide⟩ (v := (.int y4)) rfl ?_
        refine g_bipush cx d3_53 (v := (13 : Int32)) rfl ?_
        refine g_icmp_ne cx d3_55 (fun hc55 => ?_) (fun hc55 => ?_)
        · refine g_iconst cx d3_79 (v := (0 : Int32)) rfl ?_
          refine g_retZ cx d3_80 rfl rfl (by decide) (by decide) ?_
          refine ⟨?_, rfl⟩
          first | (simp [own_ea, own_P6, hc7, hc19, hc31, hc55]; done) | (exfalso; simp_all; done) | (simp only [own_ea, own_P6]; simp_all)
        · refine g_aloadN cx d3_58 rfl rfl ?_
          refine g_iloadN cx d3_59 rfl ?_
          refine g_iconst cx d3_60 (v := (3 : Int32)) rfl ?_
          refine g_isub cx d3_61 ?_
          refine G.cast (st' := [(.int (3 : Int32)), (.ref a)]) ?_ rfl
          refine g_baload cx d3_62 A_a.1 ⟨by decide, by decide⟩ (v := (.int y3)) rfl ?_
          refine g_bipush cx d3_63 (v := (10 : Int32)) rfl ?_
          refine g_icmp_ne cx d3_65 (fun hc65 => ?_) (fun hc65 => ?_)
          · refine g_iconst cx d3_79 (v := (0 : Int32)) rfl ?_
            refine g_retZ cx d3_80 rfl rfl (by decide) (by decide) ?_
            refine ⟨?_, rfl⟩
            first | (simp [own_ea, own_P6, hc7, hc19, hc31, hc55, hc65]; done) | (exfalso; simp_all; done) | (simp only [own_ea, own_P6]; simp_all)
          · refine g_iloadN cx d3_68 rfl ?_
            refine g_iconst cx d3_69 (v := (3 : Int32)) rfl ?_
            refine g_isub cx d3_70 ?_
            refine G.cast (st' := [(.int (3 : Int32))]) ?_ rfl
            refine g_iloadN cx d3_71 rfl ?_
            refine g_icmp_lt cx d3_72 (fun hc72 => ?_) (fun hc72 => ?_)
            · refine g_iconst cx d3_79 (v := (0 : Int32)) rfl ?_
              refine g_retZ cx d3_80 rfl rfl (by decide) (by decide) ?_
              refine ⟨?_, rfl⟩
              first | (simp [own_ea, own_P6, hc7, hc19, hc31, hc55, hc65, hc72]; done) | (exfalso; simp_all; done) | (simp only [own_ea, own_P6]; simp_all)
            · refine g_iconst cx d3_75 (v := (1 : Int32)) rfl ?_
              refine g_goto cx d3_76 ?_
              refine g_retZ cx d3_80 rfl rfl (by decide) (by decide) ?_
              refine ⟨?_, rfl⟩
              first | (simp [own_ea, own_P6, hc7, hc19, hc31, hc55, hc65, hc72]; done) | (exfalso; simp_all; done) | (simp only [own_ea, own_P6]; simp_all)
      · refine g_iloadN cx d3_34 rfl ?_
        refine g_iconst cx d3_35 (v := (2 : Int32)) rfl ?_
        refine g_isub cx d3_36 ?_
        refine G.cast (st' := [(.int (4 : Int32))]) ?_ rfl
        refine g_iloadN cx d3_37 rfl ?_
        refine g_icmp_lt cx d3_38 (fun hc38 => ?_) (fun hc38 => ?_)
        · refine g_iloadN cx d3_43 rfl ?_
          refine g_iconst cx d3_44 (v := (3 : Int32)) rfl ?_
          refine g_icmp_lt cx d3_45 (fun q => absurd q (fun q => by revert q; decide)) (fun hc45 => ?_)
          refine g_aloadN cx d3_48 rfl rfl ?_
          refine g_iloadN cx d3_49 rfl ?_
          refine g_iconst cx d3_50 (v := (2 : Int32)) rfl ?_
          refine g_isub cx d3_51 ?_
          refine G.cast (st' := [(.int (4 : Int32)), (.ref a)]) ?_ rfl
          refine g_baload cx d3_52 A_a.1 ⟨by decide, by decide⟩ (v := (.int y4)) rfl ?_
          refine g_bipush cx d3_53 (v := (13 : Int32)) rfl ?_
          refine g_icmp_ne cx d3_55 (fun hc55 => ?_) (fun hc55 => ?_)
          · refine g_iconst cx d3_79 (v := (0 : Int32)) rfl ?_
            refine g_retZ cx d3_80 rfl rfl (by decide) (by decide) ?_
            refine ⟨?_, rfl⟩
            first | (simp [own_ea, own_P6, hc7, hc19, hc31, hc38, hc55]; done) | (exfalso; simp_all; done) | (simp only [own_ea, own_P6]; simp_all)
          · refine g_aloadN cx d3_58 rfl rfl ?_
            refine g_iloadN cx d3_59 rfl ?_
            refine g_iconst cx d3_60 (v := (3 : Int32)) rfl ?_
            refine g_isub cx d3_61 ?_
            refine G.cast (st' := [(.int (3 : Int32)), (.ref a)]) ?_ rfl
            refine g_baload cx d3_62 A_a.1 ⟨by decide, by decide⟩ (v := (.int y3)) rfl ?_
            refine g_bipush cx d3_63 (v := (10 : Int32)) rfl ?_
            refine g_icmp_ne cx d3_65 (fun hc65 => ?_) (fun hc65 => ?_)
            · refine g_iconst cx d3_79 (v := (0 : Int32)) rfl ?_
              refine g_retZ cx d3_80 rfl rfl (by decide) (by decide) ?_
              refine ⟨?_, rfl⟩
              first | (simp [own_ea, own_P6, hc7, hc19, hc31, hc38, hc55, hc65]; done) | (exfalso; simp_all; done) | (simp only [own_ea, own_P6]; simp_all)
            · refine g_iloadN cx d3_68 rfl ?_
              refine g_iconst cx d3_69 (v := (3 : Int32)) rfl ?_
              refine g_isub cx d3_70 ?_
              refine G.cast (st' := [(.int (3 : Int32))]) ?_ rfl
              refine g_iloadN cx d3_71 rfl ?_
              refine g_icmp_lt cx d3_72 (fun hc72 => ?_) (fun hc72 => ?_)
              · refine g_iconst cx d3_79 (v := (0 : Int32)) rfl ?_
                refine g_retZ cx d3_80 rfl rfl (by decide) (by decide) ?_
                refine ⟨?_, rfl⟩
                first | (simp [own_ea, own_P6, hc7, hc19, hc31, hc38, hc55, hc65, hc72]; done) | (exfalso; simp_all; done) | (simp only [own_ea, own_P6]; simp_all)
              · refine g_iconst cx d3_75 (v := (1 : Int32)) rfl ?_
                refine g_goto cx d3_76 ?_
                refine g_retZ cx d3_80 rfl rfl (by decide) (by decide) ?_
                refine ⟨?_, rfl⟩
                first | (simp [own_ea, own_P6, hc7, hc19, hc31, hc38, hc55, hc65, hc72]; done) | (exfalso; simp_all; done) | (simp only [own_ea, own_P6]; simp_all)
        · refine g_iconst cx d3_41 (v := (1 : Int32)) rfl ?_
          refine g_retZ cx d3_42 rfl rfl (by decide) (by decide) ?_
          refine ⟨?_, rfl⟩
          first | (simp [own_ea, own_P6, hc7, hc19, hc31, hc38]; done) | (exfalso; simp_all; done) | (simp only [own_ea, own_P6]; simp_all)
    · refine g_iconst cx d3_22 (v := (0 : Int32)) rfl ?_
      refine g_retZ cx d3_23 rfl rfl (by decide) (by decide) ?_
      refine ⟨?_, rfl⟩
      first | (simp [own_ea, own_P6, hc7, hc19]; done) | (exfalso; simp_all; done) | (simp only [own_ea, own_P6]; simp_all)
  · refine g_iconst cx d3_10 (v := (0 : Int32)) rfl ?_
    refine g_retZ cx d3_11 rfl rfl (by decide) (by decide) ?_
    refine ⟨?_, rfl⟩
    first | (simp [own_ea, own_P6, hc7]; done) | (exfalso; simp_all; done) | (simp only [own_ea, own_P6]; simp_all)
theorem own_P7 (y0 y1 y2 y3 y4 y5 y6 y7 : Int32) (s t : Int32) : own_P [y0, y1, y2, y3, y4, y5, y6, y7] s t 7 ↔ (¬ t < 7 ∧ y6 = 10 ∧ ((y5 = 10 ∧ ¬ (5 : Int32) < s) ∨ (¬ (7 : Int32) < 3 ∧ y5 = 13 ∧ y4 = 10 ∧ ¬ (4 : Int32) < s))) := Iff.rfl
theorem pn_rmE7 : plainName "com/example/dyn_authz/dynauthz/service/RequestHeadEndPinLaw" = true := by first | (simp [plainName, overriddenIn]; done) | decide +kernel
set_option maxRecDepth 65536 in
set_option maxHeartbeats 40000000 in
theorem rmE7 (l : Launch) (Z : State) (a0 : Array Value) (hw : ∀ d ∈ tables_1, d.before a0 Z = true) (a : Addr) (sg t : Int32) (y0 y1 y2 y3 y4 y5 y6 y7 : Int32) (cA : ClassId) (h0 : Heap) (A_a : Arx Z h0 a cA .byte (8 : Int32) [(.int y0), (.int y1), (.int y2), (.int y3), (.int y4), (.int y5), (.int y6), (.int y7)] (.int (0 : Int32)) "[B") :
    Met l Z (⟨"com/example/dyn_authz/dynauthz/service/RequestHeadEndPinLaw", "endsAt", "([BIII)Z"⟩ : MethodName) method_3_code 4 (some .boolean) ({ frames := 0, cells := 0, slots := 0, locals := 0 } : Room) #[(.ref a), (.int (7 : Int32)), (.int sg), (.int t)] h0 (fun v h' => v = some (.int (own_ea [y0, y1, y2, y3, y4, y5, y6, y7] sg t 7)) ∧ h0 = h') := by
  refine met_of (Ls := #[.val (.ref a), .val (.int (7 : Int32)), .val (.int sg), .val (.int t)]) (plainFor_of_name pn_rmE7) (fun m => by first | (simp [entryFrame, mkF, argsToLocals, Value.category]; done) | rfl) (fun p e s m below meth c cx => ?_)
  refine g_iloadN cx d3_0 rfl ?_
  refine g_iconst cx d3_1 (v := (2 : Int32)) rfl ?_
  refine g_icmp_lt cx d3_2 (fun q => absurd q (fun q => by revert q; decide)) (fun hc2 => ?_)
  refine g_iloadN cx d3_5 rfl ?_
  refine g_iloadN cx d3_6 rfl ?_
  refine g_icmp_le cx d3_7 (fun hc7 => ?_) (fun hc7 => ?_)
  · refine g_aloadN cx d3_12 rfl rfl ?_
    refine g_iloadN cx d3_13 rfl ?_
    refine g_iconst cx d3_14 (v := (1 : Int32)) rfl ?_
    refine g_isub cx d3_15 ?_
    refine G.cast (st' := [(.int (6 : Int32)), (.ref a)]) ?_ rfl
    refine g_baload cx d3_16 A_a.1 ⟨by decide, by decide⟩ (v := (.int y6)) rfl ?_
    refine g_bipush cx d3_17 (v := (10 : Int32)) rfl ?_
    refine g_icmp_eq cx d3_19 (fun hc19 => ?_) (fun hc19 => ?_)
    · refine g_aloadN cx d3_24 rfl rfl ?_
      refine g_iloadN cx d3_25 rfl ?_
      refine g_iconst cx d3_26 (v := (2 : Int32)) rfl ?_
      refine g_isub cx d3_27 ?_
      refine G.cast (st' := [(.int (5 : Int32)), (.ref a)]) ?_ rfl
      refine g_baload cx d3_28 A_a.1 ⟨by decide, by decide⟩ (v := (.int y5)) rfl ?_
      refine g_bipush cx d3_29 (v := (10 : Int32)) rfl ?_
      refine g_icmp_ne cx d3_31 (fun hc31 => ?_) (fun hc31 => ?_)
      · refine g_iloadN cx d3_43 rfl ?_
        refine g_iconst cx d3_44 (v := (3 : Int32)) rfl ?_
        refine g_icmp_lt cx d3_45 (fun q => absurd q (fun q => by revert q; decide)) (fun hc45 => ?_)
        refine g_aloadN cx d3_48 rfl rfl ?_
        refine g_iloadN cx d3_49 rfl ?_
        refine g_iconst cx d3_50 (v := (2 : Int32)) rfl ?_
        refine g_isub cx d3_51 ?_
        refine G.cast (st' := [(.int (5 : Int32)), (.ref a)]) ?_ rfl
        refine g_baload cx d3_52 A_a.1 ⟨by decide, by decide⟩ (v := (.int y5)) rfl ?_
        refine g_bipush cx d3_53 (v := (13 : Int32)) rfl ?_
        refine g_icmp_ne cx d3_55 (fun hc55 => ?_) (fun hc55 => ?_)
        · refine g_iconst cx d3_79 (v := (0 : Int32)) rfl ?_
          refine g_retZ cx d3_80 rfl rfl (by decide) (by decide) ?_
          refine ⟨?_, rfl⟩
          first | (simp [own_ea, own_P7, hc7, hc19, hc31, hc55]; done) | (exfalso; simp_all; done) | (simp only [own_ea, own_P7]; simp_all)
        · refine g_aloadN cx d3_58 rfl rfl ?_
          refine g_iloadN cx d3_59 rfl ?_
          refine g_iconst cx d3_60 (v := (3 : Int32)) rfl ?_
          refine g_isub cx d3_61 ?_
          refine G.cast (st' := [(.int (4 : Int32)), (.ref a)]) ?_ rfl
          refine g_baload cx d3_62 A_a.1 ⟨by decide, by decide⟩ (v := (.int y4)) rfl ?_
          refine g_bipush cx d3_63 (v := (10 : Int32)) rfl ?_
          refine g_icmp_ne cx d3_65 (fun hc65 => ?_) (fun hc65 => ?_)
          · refine g_iconst cx d3_79 (v := (0 : Int32)) rfl ?_
            refine g_retZ cx d3_80 rfl rfl (by decide) (by decide) ?_
            refine ⟨?_, rfl⟩
            first | (simp [own_ea, own_P7, hc7, hc19, hc31, hc55, hc65]; done) | (exfalso; simp_all; done) | (simp only [own_ea, own_P7]; simp_all)
          · refine g_iloadN cx d3_68 rfl ?_
            refine g_iconst cx d3_69 (v := (3 : Int32)) rfl ?_
            refine g_isub cx d3_70 ?_
            refine G.cast (st' := [(.int (4 : Int32))]) ?_ rfl
            refine g_iloadN cx d3_71 rfl ?_
            refine g_icmp_lt cx d3_72 (fun hc72 => ?_) (fun hc72 => ?_)
            · refine g_iconst cx d3_79 (v := (0 : Int32)) rfl ?_
              refine g_retZ cx d3_80 rfl rfl (by decide) (by decide) ?_
              refine ⟨?_, rfl⟩
              first | (simp [own_ea, own_P7, hc7, hc19, hc31, hc55, hc65, hc72]; done) | (exfalso; simp_all; done) | (simp only [own_ea, own_P7]; simp_all)
            · refine g_iconst cx d3_75 (v := (1 : Int32)) rfl ?_
              refine g_goto cx d3_76 ?_
              refine g_retZ cx d3_80 rfl rfl (by decide) (by decide) ?_
              refine ⟨?_, rfl⟩
              first | (simp [own_ea, own_P7, hc7, hc19, hc31, hc55, hc65, hc72]; done) | (exfalso; simp_all; done) | (simp only [own_ea, own_P7]; simp_all)
      · refine g_iloadN cx d3_34 rfl ?_
        refine g_iconst cx d3_35 (v := (2 : Int32)) rfl ?_
        refine g_isub cx d3_36 ?_
        refine G.cast (st' := [(.int (5 : Int32))]) ?_ rfl
        refine g_iloadN cx d3_37 rfl ?_
        refine g_icmp_lt cx d3_38 (fun hc38 => ?_) (fun hc38 => ?_)
        · refine g_iloadN cx d3_43 rfl ?_
          refine g_iconst cx d3_44 (v := (3 : Int32)) rfl ?_
          refine g_icmp_lt cx d3_45 (fun q => absurd q (fun q => by revert q; decide)) (fun hc45 => ?_)
          refine g_aloadN cx d3_48 rfl rfl ?_
          refine g_iloadN cx d3_49 rfl ?_
          refine g_iconst cx d3_50 (v := (2 : Int32)) rfl ?_
          refine g_isub cx d3_51 ?_
          refine G.cast (st' := [(.int (5 : Int32)), (.ref a)]) ?_ rfl
          refine g_baload cx d3_52 A_a.1 ⟨by decide, by decide⟩ (v := (.int y5)) rfl ?_
          refine g_bipush cx d3_53 (v := (13 : Int32)) rfl ?_
          refine g_icmp_ne cx d3_55 (fun hc55 => ?_) (fun hc55 => ?_)
          · refine g_iconst cx d3_79 (v := (0 : Int32)) rfl ?_
            refine g_retZ cx d3_80 rfl rfl (by decide) (by decide) ?_
            refine ⟨?_, rfl⟩
            first | (simp [own_ea, own_P7, hc7, hc19, hc31, hc38, hc55]; done) | (exfalso; simp_all; done) | (simp only [own_ea, own_P7]; simp_all)
          · refine g_aloadN cx d3_58 rfl rfl ?_
            refine g_iloadN cx d3_59 rfl ?_
            refine g_iconst cx d3_60 (v := (3 : Int32)) rfl ?_
            refine g_isub cx d3_61 ?_
            refine G.cast (st' := [(.int (4 : Int32)), (.ref a)]) ?_ rfl
            refine g_baload cx d3_62 A_a.1 ⟨by decide, by decide⟩ (v := (.int y4)) rfl ?_
            refine g_bipush cx d3_63 (v := (10 : Int32)) rfl ?_
            refine g_icmp_ne cx d3_65 (fun hc65 => ?_) (fun hc65 => ?_)
            · refine g_iconst cx d3_79 (v := (0 : Int32)) rfl ?_
              refine g_retZ cx d3_80 rfl rfl (by decide) (by decide) ?_
              refine ⟨?_, rfl⟩
              first | (simp [own_ea, own_P7, hc7, hc19, hc31, hc38, hc55, hc65]; done) | (exfalso; simp_all; done) | (simp only [own_ea, own_P7]; simp_all)
            · refine g_iloadN cx d3_68 rfl ?_
              refine g_iconst cx d3_69 (v := (3 : Int32)) rfl ?_
              refine g_isub cx d3_70 ?_
              refine G.cast (st' := [(.int (4 : Int32))]) ?_ rfl
              refine g_iloadN cx d3_71 rfl ?_
              refine g_icmp_lt cx d3_72 (fun hc72 => ?_) (fun hc72 => ?_)
              · refine g_iconst cx d3_79 (v := (0 : Int32)) rfl ?_
                refine g_retZ cx d3_80 rfl rfl (by decide) (by decide) ?_
                refine ⟨?_, rfl⟩
                first | (simp [own_ea, own_P7, hc7, hc19, hc31, hc38, hc55, hc65, hc72]; done) | (exfalso; simp_all; done) | (simp only [own_ea, own_P7]; simp_all)
              · refine g_iconst cx d3_75 (v := (1 : Int32)) rfl ?_
                refine g_goto cx d3_76 ?_
                refine g_retZ cx d3_80 rfl rfl (by decide) (by decide) ?_
                refine ⟨?_, rfl⟩
                first | (simp [own_ea, own_P7, hc7, hc19, hc31, hc38, hc55, hc65, hc72]; done) | (exfalso; simp_all; done) | (simp only [own_ea, own_P7]; simp_all)
        · refine g_iconst cx d3_41 (v := (1 : Int32)) rfl ?_
          refine g_retZ cx d3_42 rfl rfl (by decide) (by decide) ?_
          refine ⟨?_, rfl⟩
          first | (simp [own_ea, own_P7, hc7, hc19, hc31, hc38]; done) | (exfalso; simp_all; done) | (simp only [own_ea, own_P7]; simp_all)
    · refine g_iconst cx d3_22 (v := (0 : Int32)) rfl ?_
      refine g_retZ cx d3_23 rfl rfl (by decide) (by decide) ?_
      refine ⟨?_, rfl⟩
      first | (simp [own_ea, own_P7, hc7, hc19]; done) | (exfalso; simp_all; done) | (simp only [own_ea, own_P7]; simp_all)
  · refine g_iconst cx d3_10 (v := (0 : Int32)) rfl ?_
    refine g_retZ cx d3_11 rfl rfl (by decide) (by decide) ?_
    refine ⟨?_, rfl⟩
    first | (simp [own_ea, own_P7, hc7]; done) | (exfalso; simp_all; done) | (simp only [own_ea, own_P7]; simp_all)
theorem own_P8 (y0 y1 y2 y3 y4 y5 y6 y7 : Int32) (s t : Int32) : own_P [y0, y1, y2, y3, y4, y5, y6, y7] s t 8 ↔ (¬ t < 8 ∧ y7 = 10 ∧ ((y6 = 10 ∧ ¬ (6 : Int32) < s) ∨ (¬ (8 : Int32) < 3 ∧ y6 = 13 ∧ y5 = 10 ∧ ¬ (5 : Int32) < s))) := Iff.rfl
theorem pn_rmE8 : plainName "com/example/dyn_authz/dynauthz/service/RequestHeadEndPinLaw" = true := by first | (simp [plainName, overriddenIn]; done) | decide +kernel
set_option maxRecDepth 65536 in
set_option maxHeartbeats 40000000 in
theorem rmE8 (l : Launch) (Z : State) (a0 : Array Value) (hw : ∀ d ∈ tables_1, d.before a0 Z = true) (a : Addr) (sg t : Int32) (y0 y1 y2 y3 y4 y5 y6 y7 : Int32) (cA : ClassId) (h0 : Heap) (A_a : Arx Z h0 a cA .byte (8 : Int32) [(.int y0), (.int y1), (.int y2), (.int y3), (.int y4), (.int y5), (.int y6), (.int y7)] (.int (0 : Int32)) "[B") :
    Met l Z (⟨"com/example/dyn_authz/dynauthz/service/RequestHeadEndPinLaw", "endsAt", "([BIII)Z"⟩ : MethodName) method_3_code 4 (some .boolean) ({ frames := 0, cells := 0, slots := 0, locals := 0 } : Room) #[(.ref a), (.int (8 : Int32)), (.int sg), (.int t)] h0 (fun v h' => v = some (.int (own_ea [y0, y1, y2, y3, y4, y5, y6, y7] sg t 8)) ∧ h0 = h') := by
  refine met_of (Ls := #[.val (.ref a), .val (.int (8 : Int32)), .val (.int sg), .val (.int t)]) (plainFor_of_name pn_rmE8) (fun m => by first | (simp [entryFrame, mkF, argsToLocals, Value.category]; done) | rfl) (fun p e s m below meth c cx => ?_)
  refine g_iloadN cx d3_0 rfl ?_
  refine g_iconst cx d3_1 (v := (2 : Int32)) rfl ?_
  refine g_icmp_lt cx d3_2 (fun q => absurd q (fun q => by revert q; decide)) (fun hc2 => ?_)
  refine g_iloadN cx d3_5 rfl ?_
  refine g_iloadN cx d3_6 rfl ?_
  refine g_icmp_le cx d3_7 (fun hc7 => ?_) (fun hc7 => ?_)
  · refine g_aloadN cx d3_12 rfl rfl ?_
    refine g_iloadN cx d3_13 rfl ?_
    refine g_iconst cx d3_14 (v := (1 : Int32)) rfl ?_
    refine g_isub cx d3_15 ?_
    refine G.cast (st' := [(.int (7 : Int32)), (.ref a)]) ?_ rfl
    refine g_baload cx d3_16 A_a.1 ⟨by decide, by decide⟩ (v := (.int y7)) rfl ?_
    refine g_bipush cx d3_17 (v := (10 : Int32)) rfl ?_
    refine g_icmp_eq cx d3_19 (fun hc19 => ?_) (fun hc19 => ?_)
    · refine g_aloadN cx d3_24 rfl rfl ?_
      refine g_iloadN cx d3_25 rfl ?_
      refine g_iconst cx d3_26 (v := (2 : Int32)) rfl ?_
      refine g_isub cx d3_27 ?_
      refine G.cast (st' := [(.int (6 : Int32)), (.ref a)]) ?_ rfl
      refine g_baload cx d3_28 A_a.1 ⟨by decide, by decide⟩ (v := (.int y6)) rfl ?_
      refine g_bipush cx d3_29 (v := (10 : Int32)) rfl ?_
      refine g_icmp_ne cx d3_31 (fun hc31 => ?_) (fun hc31 => ?_)
      · refine g_iloadN cx d3_43 rfl ?_
        refine g_iconst cx d3_44 (v := (3 : Int32)) rfl ?_
        refine g_icmp_lt cx d3_45 (fun q => absurd q (fun q => by revert q; decide)) (fun hc45 => ?_)
        refine g_aloadN cx d3_48 rfl rfl ?_
        refine g_iloadN cx d3_49 rfl ?_
        refine g_iconst cx d3_50 (v := (2 : Int32)) rfl ?_
        refine g_isub cx d3_51 ?_
        refine G.cast (st' := [(.int (6 : Int32)), (.ref a)]) ?_ rfl
        refine g_baload cx d3_52 A_a.1 ⟨by decide, by decide⟩ (v := (.int y6)) rfl ?_
        refine g_bipush cx d3_53 (v := (13 : Int32)) rfl ?_
        refine g_icmp_ne cx d3_55 (fun hc55 => ?_) (fun hc55 => ?_)
        · refine g_iconst cx d3_79 (v := (0 : Int32)) rfl ?_
          refine g_retZ cx d3_80 rfl rfl (by decide) (by decide) ?_
          refine ⟨?_, rfl⟩
          first | (simp [own_ea, own_P8, hc7, hc19, hc31, hc55]; done) | (exfalso; simp_all; done) | (simp only [own_ea, own_P8]; simp_all)
        · refine g_aloadN cx d3_58 rfl rfl ?_
          refine g_iloadN cx d3_59 rfl ?_
          refine g_iconst cx d3_60 (v := (3 : Int32)) rfl ?_
          refine g_isub cx d3_61 ?_
          refine G.cast (st' := [(.int (5 : Int32)), (.ref a)]) ?_ rfl
          refine g_baload cx d3_62 A_a.1 ⟨by decide, by decide⟩ (v := (.int y5)) rfl ?_
          refine g_bipush cx d3_63 (v := (10 : Int32)) rfl ?_
          refine g_icmp_ne cx d3_65 (fun hc65 => ?_) (fun hc65 => ?_)
          · refine g_iconst cx d3_79 (v := (0 : Int32)) rfl ?_
            refine g_retZ cx d3_80 rfl rfl (by decide) (by decide) ?_
            refine ⟨?_, rfl⟩
            first | (simp [own_ea, own_P8, hc7, hc19, hc31, hc55, hc65]; done) | (exfalso; simp_all; done) | (simp only [own_ea, own_P8]; simp_all)
          · refine g_iloadN cx d3_68 rfl ?_
            refine g_iconst cx d3_69 (v := (3 : Int32)) rfl ?_
            refine g_isub cx d3_70 ?_
            refine G.cast (st' := [(.int (5 : Int32))]) ?_ rfl
            refine g_iloadN cx d3_71 rfl ?_
            refine g_icmp_lt cx d3_72 (fun hc72 => ?_) (fun hc72 => ?_)
            · refine g_iconst cx d3_79 (v := (0 : Int32)) rfl ?_
              refine g_retZ cx d3_80 rfl rfl (by decide) (by decide) ?_
              refine ⟨?_, rfl⟩
              first | (simp [own_ea, own_P8, hc7, hc19, hc31, hc55, hc65, hc72]; done) | (exfalso; simp_all; done) | (simp only [own_ea, own_P8]; simp_all)
            · refine g_iconst cx d3_75 (v := (1 : Int32)) rfl ?_
              refine g_goto cx d3_76 ?_
              refine g_retZ cx d3_80 rfl rfl (by decide) (by decide) ?_
              refine ⟨?_, rfl⟩
              first | (simp [own_ea, own_P8, hc7, hc19, hc31, hc55, hc65, hc72]; done) | (exfalso; simp_all; done) | (simp only [own_ea, own_P8]; simp_all)
      · refine g_iloadN cx d3_34 rfl ?_
        refine g_iconst cx d3_35 (v := (2 : Int32)) rfl ?_
        refine g_isub cx d3_36 ?_
        refine G.cast (st' := [(.int (6 : Int32))]) ?_ rfl
        refine g_iloadN cx d3_37 rfl ?_
        refine g_icmp_lt cx d3_38 (fun hc38 => ?_) (fun hc38 => ?_)
        · refine g_iloadN cx d3_43 rfl ?_
          refine g_iconst cx d3_44 (v := (3 : Int32)) rfl ?_
          refine g_icmp_lt cx d3_45 (fun q => absurd q (fun q => by revert q; decide)) (fun hc45 => ?_)
          refine g_aloadN cx d3_48 rfl rfl ?_
          refine g_iloadN cx d3_49 rfl ?_
          refine g_iconst cx d3_50 (v := (2 : Int32)) rfl ?_
          refine g_isub cx d3_51 ?_
          refine G.cast (st' := [(.int (6 : Int32)), (.ref a)]) ?_ rfl
          refine g_baload cx d3_52 A_a.1 ⟨by decide, by decide⟩ (v := (.int y6)) rfl ?_
          refine g_bipush cx d3_53 (v := (13 : Int32)) rfl ?_
          refine g_icmp_ne cx d3_55 (fun hc55 => ?_) (fun hc55 => ?_)
          · refine g_iconst cx d3_79 (v := (0 : Int32)) rfl ?_
            refine g_retZ cx d3_80 rfl rfl (by decide) (by decide) ?_
            refine ⟨?_, rfl⟩
            first | (simp [own_ea, own_P8, hc7, hc19, hc31, hc38, hc55]; done) | (exfalso; simp_all; done) | (simp only [own_ea, own_P8]; simp_all)
          · refine g_aloadN cx d3_58 rfl rfl ?_
            refine g_iloadN cx d3_59 rfl ?_
            refine g_iconst cx d3_60 (v := (3 : Int32)) rfl ?_
            refine g_isub cx d3_61 ?_
            refine G.cast (st' := [(.int (5 : Int32)), (.ref a)]) ?_ rfl
            refine g_baload cx d3_62 A_a.1 ⟨by decide, by decide⟩ (v := (.int y5)) rfl ?_
            refine g_bipush cx d3_63 (v := (10 : Int32)) rfl ?_
            refine g_icmp_ne cx d3_65 (fun hc65 => ?_) (fun hc65 => ?_)
            · refine g_iconst cx d3_79 (v := (0 : Int32)) rfl ?_
              refine g_retZ cx d3_80 rfl rfl (by decide) (by decide) ?_
              refine ⟨?_, rfl⟩
              first | (simp [own_ea, own_P8, hc7, hc19, hc31, hc38, hc55, hc65]; done) | (exfalso; simp_all; done) | (simp only [own_ea, own_P8]; simp_all)
            · refine g_iloadN cx d3_68 rfl ?_
              refine g_iconst cx d3_69 (v := (3 : Int32)) rfl ?_
              refine g_isub cx d3_70 ?_
              refine G.cast (st' := [(.int (5 : Int32))]) ?_ rfl
              refine g_iloadN cx d3_71 rfl ?_
              refine g_icmp_lt cx d3_72 (fun hc72 => ?_) (fun hc72 => ?_)
              · refine g_iconst cx d3_79 (v := (0 : Int32)) rfl ?_
                refine g_retZ cx d3_80 rfl rfl (by decide) (by decide) ?_
                refine ⟨?_, rfl⟩
                first | (simp [own_ea, own_P8, hc7, hc19, hc31, hc38, hc55, hc65, hc72]; done) | (exfalso; simp_all; done) | (simp only [own_ea, own_P8]; simp_all)
              · refine g_iconst cx d3_75 (v := (1 : Int32)) rfl ?_
                refine g_goto cx d3_76 ?_
                refine g_retZ cx d3_80 rfl rfl (by decide) (by decide) ?_
                refine ⟨?_, rfl⟩
                first | (simp [own_ea, own_P8, hc7, hc19, hc31, hc38, hc55, hc65, hc72]; done) | (exfalso; simp_all; done) | (simp only [own_ea, own_P8]; simp_all)
        · refine g_iconst cx d3_41 (v := (1 : Int32)) rfl ?_
          refine g_retZ cx d3_42 rfl rfl (by decide) (by decide) ?_
          refine ⟨?_, rfl⟩
          first | (simp [own_ea, own_P8, hc7, hc19, hc31, hc38]; done) | (exfalso; simp_all; done) | (simp only [own_ea, own_P8]; simp_all)
    · refine g_iconst cx d3_22 (v := (0 : Int32)) rfl ?_
      refine g_retZ cx d3_23 rfl rfl (by decide) (by decide) ?_
      refine ⟨?_, rfl⟩
      first | (simp [own_ea, own_P8, hc7, hc19]; done) | (exfalso; simp_all; done) | (simp only [own_ea, own_P8]; simp_all)
  · refine g_iconst cx d3_10 (v := (0 : Int32)) rfl ?_
    refine g_retZ cx d3_11 rfl rfl (by decide) (by decide) ?_
    refine ⟨?_, rfl⟩
    first | (simp [own_ea, own_P8, hc7]; done) | (exfalso; simp_all; done) | (simp only [own_ea, own_P8]; simp_all)
theorem own_jl {j i t : Int32} (b : j < t) (c : ¬ i < t) : j < i := by rw [Int32.lt_iff_toInt_lt] at *; omega
theorem own_fu (t i : Int32) : t.toInt - i.toInt ≤ ((t.toInt - i.toInt).toNat : Nat) := by omega
theorem own_mxn {f u : Int32} (h : ¬ f < 0) : ¬ own_mx f u < 0 := by
  unfold own_mx; split
  · rename_i q; rw [Int32.lt_iff_toInt_lt] at *; omega
  · exact h
theorem d4_9 : Dc prog_48_method_2_code 9 (.iload 4) 2 11 := ⟨by decide +kernel, rfl⟩
theorem d4_11 : Dc prog_48_method_2_code 11 (.iload_n 3) 1 12 := ⟨by decide +kernel, rfl⟩
theorem d4_12 : Bi prog_48_method_2_code 12 (Instr.if_icmp .ge) 89 15 := ⟨77, by decide +kernel, by decide, by decide, rfl⟩
theorem d4_89 : Dc prog_48_method_2_code 89 (.iconst (-1)) 1 90 := ⟨by decide +kernel, rfl⟩
theorem d4_90 : Dc prog_48_method_2_code 90 (.ireturn) 1 91 := ⟨by decide +kernel, rfl⟩
theorem d4_15 : Dc prog_48_method_2_code 15 (.aload_n 0) 1 16 := ⟨by decide +kernel, rfl⟩
theorem d4_16 : Dc prog_48_method_2_code 16 (.iload 4) 2 18 := ⟨by decide +kernel, rfl⟩
theorem d4_18 : Dc prog_48_method_2_code 18 (.baload) 1 19 := ⟨by decide +kernel, rfl⟩
theorem d4_19 : Dc prog_48_method_2_code 19 (.bipush 10) 2 21 := ⟨by decide +kernel, rfl⟩
theorem d4_21 : Bi prog_48_method_2_code 21 (Instr.if_icmp .ne) 83 24 := ⟨62, by decide +kernel, by decide, by decide, rfl⟩
theorem d4_83 : Dc prog_48_method_2_code 83 (.iinc 4 1) 3 86 := ⟨by decide +kernel, rfl⟩
theorem d4_86 : Bi prog_48_method_2_code 86 (Instr.goto) 9 89 := ⟨(-77), by decide +kernel, by decide, by decide, rfl⟩
theorem d4_24 : Dc prog_48_method_2_code 24 (.iload 4) 2 26 := ⟨by decide +kernel, rfl⟩
theorem d4_26 : Dc prog_48_method_2_code 26 (.iconst 1) 1 27 := ⟨by decide +kernel, rfl⟩
theorem d4_27 : Dc prog_48_method_2_code 27 (.iadd) 1 28 := ⟨by decide +kernel, rfl⟩
theorem d4_28 : Dc prog_48_method_2_code 28 (.iload_n 3) 1 29 := ⟨by decide +kernel, rfl⟩
theorem d4_29 : Bi prog_48_method_2_code 29 (Instr.if_icmp .ge) 48 32 := ⟨19, by decide +kernel, by decide, by decide, rfl⟩
theorem d4_48 : Dc prog_48_method_2_code 48 (.iload 4) 2 50 := ⟨by decide +kernel, rfl⟩
theorem d4_50 : Dc prog_48_method_2_code 50 (.iconst 2) 1 51 := ⟨by decide +kernel, rfl⟩
theorem d4_51 : Dc prog_48_method_2_code 51 (.iadd) 1 52 := ⟨by decide +kernel, rfl⟩
theorem d4_52 : Dc prog_48_method_2_code 52 (.iload_n 3) 1 53 := ⟨by decide +kernel, rfl⟩
theorem d4_53 : Bi prog_48_method_2_code 53 (Instr.if_icmp .ge) 83 56 := ⟨30, by decide +kernel, by decide, by decide, rfl⟩
theorem d4_56 : Dc prog_48_method_2_code 56 (.aload_n 0) 1 57 := ⟨by decide +kernel, rfl⟩
theorem d4_57 : Dc prog_48_method_2_code 57 (.iload 4) 2 59 := ⟨by decide +kernel, rfl⟩
theorem d4_59 : Dc prog_48_method_2_code 59 (.iconst 1) 1 60 := ⟨by decide +kernel, rfl⟩
theorem d4_60 : Dc prog_48_method_2_code 60 (.iadd) 1 61 := ⟨by decide +kernel, rfl⟩
theorem d4_61 : Dc prog_48_method_2_code 61 (.baload) 1 62 := ⟨by decide +kernel, rfl⟩
theorem d4_62 : Dc prog_48_method_2_code 62 (.bipush 13) 2 64 := ⟨by decide +kernel, rfl⟩
theorem d4_64 : Bi prog_48_method_2_code 64 (Instr.if_icmp .ne) 83 67 := ⟨19, by decide +kernel, by decide, by decide, rfl⟩
theorem d4_67 : Dc prog_48_method_2_code 67 (.aload_n 0) 1 68 := ⟨by decide +kernel, rfl⟩
theorem d4_68 : Dc prog_48_method_2_code 68 (.iload 4) 2 70 := ⟨by decide +kernel, rfl⟩
theorem d4_70 : Dc prog_48_method_2_code 70 (.iconst 2) 1 71 := ⟨by decide +kernel, rfl⟩
theorem d4_71 : Dc prog_48_method_2_code 71 (.iadd) 1 72 := ⟨by decide +kernel, rfl⟩
theorem d4_72 : Dc prog_48_method_2_code 72 (.baload) 1 73 := ⟨by decide +kernel, rfl⟩
theorem d4_73 : Dc prog_48_method_2_code 73 (.bipush 10) 2 75 := ⟨by decide +kernel, rfl⟩
theorem d4_75 : Bi prog_48_method_2_code 75 (Instr.if_icmp .ne) 83 78 := ⟨8, by decide +kernel, by decide, by decide, rfl⟩
theorem d4_78 : Dc prog_48_method_2_code 78 (.iload 4) 2 80 := ⟨by decide +kernel, rfl⟩
theorem d4_80 : Dc prog_48_method_2_code 80 (.iconst 3) 1 81 := ⟨by decide +kernel, rfl⟩
theorem d4_81 : Dc prog_48_method_2_code 81 (.iadd) 1 82 := ⟨by decide +kernel, rfl⟩
theorem d4_82 : Dc prog_48_method_2_code 82 (.ireturn) 1 83 := ⟨by decide +kernel, rfl⟩
theorem d4_32 : Dc prog_48_method_2_code 32 (.aload_n 0) 1 33 := ⟨by decide +kernel, rfl⟩
theorem d4_33 : Dc prog_48_method_2_code 33 (.iload 4) 2 35 := ⟨by decide +kernel, rfl⟩
theorem d4_35 : Dc prog_48_method_2_code 35 (.iconst 1) 1 36 := ⟨by decide +kernel, rfl⟩
theorem d4_36 : Dc prog_48_method_2_code 36 (.iadd) 1 37 := ⟨by decide +kernel, rfl⟩
theorem d4_37 : Dc prog_48_method_2_code 37 (.baload) 1 38 := ⟨by decide +kernel, rfl⟩
theorem d4_38 : Dc prog_48_method_2_code 38 (.bipush 10) 2 40 := ⟨by decide +kernel, rfl⟩
theorem d4_40 : Bi prog_48_method_2_code 40 (Instr.if_icmp .ne) 48 43 := ⟨8, by decide +kernel, by decide, by decide, rfl⟩
theorem d4_43 : Dc prog_48_method_2_code 43 (.iload 4) 2 45 := ⟨by decide +kernel, rfl⟩
theorem d4_45 : Dc prog_48_method_2_code 45 (.iconst 2) 1 46 := ⟨by decide +kernel, rfl⟩
theorem d4_46 : Dc prog_48_method_2_code 46 (.iadd) 1 47 := ⟨by decide +kernel, rfl⟩
theorem d4_47 : Dc prog_48_method_2_code 47 (.ireturn) 1 48 := ⟨by decide +kernel, rfl⟩
theorem d4_0 : Dc prog_48_method_2_code 0 (.iload_n 1) 1 1 := ⟨by decide +kernel, rfl⟩
theorem d4_1 : Dc prog_48_method_2_code 1 (.iload_n 2) 1 2 := ⟨by decide +kernel, rfl⟩
theorem d4_2 : Dc prog_48_method_2_code 2 (.iconst 2) 1 3 := ⟨by decide +kernel, rfl⟩
theorem d4_3 : Dc prog_48_method_2_code 3 (.isub) 1 4 := ⟨by decide +kernel, rfl⟩
theorem pd_0 : parseMethodDescriptor "(II)I" = some ⟨[.int, .int], some .int⟩ := by decide +kernel
theorem d4_4 : Dc prog_48_method_2_code 4 (.invokestatic 52) 3 7 := ⟨by decide +kernel, rfl⟩
theorem d4_7 : Dc prog_48_method_2_code 7 (.istore 4) 2 9 := ⟨by decide +kernel, rfl⟩
theorem pn_rmR : plainName "com/example/dyn_authz/dynauthz/service/RequestHead" = true := by first | (simp [plainName, overriddenIn]; done) | decide +kernel
set_option maxRecDepth 65536 in
set_option maxHeartbeats 40000000 in
theorem rmR (l : Launch) (Z : State) (a0 : Array Value) (hw : ∀ d ∈ tables_1, d.before a0 Z = true) (a : Addr) (f sc t : Int32) (y0 y1 y2 y3 y4 y5 y6 y7 : Int32) (cA : ClassId) (h0 : Heap) (A_a : Arx Z h0 a cA .byte (8 : Int32) [(.int y0), (.int y1), (.int y2), (.int y3), (.int y4), (.int y5), (.int y6), (.int y7)] (.int (0 : Int32)) "[B") (hf : ¬ f < 0) (ht : ¬ 8 < t) :
    Met l Z (⟨"com/example/dyn_authz/dynauthz/service/RequestHead", "end", "([BIII)I"⟩ : MethodName) prog_48_method_2_code 5 (some .int) ({ frames := 1, cells := 0, slots := 0, locals := 13 } : Room) #[(.ref a), (.int f), (.int sc), (.int t)] h0 (fun v h' => ∃ r, v = some (.int r) ∧ h0 = h' ∧ own_R [y0, y1, y2, y3, y4, y5, y6, y7] (own_mx f (sc - 2)) t r) := by
  refine met_of (Ls := #[.val (.ref a), .val (.int f), .val (.int sc), .val (.int t), .unset]) (plainFor_of_name pn_rmR) (fun m => by first | (simp [entryFrame, mkF, argsToLocals, Value.category]; done) | rfl) (fun p e s m below meth c cx => ?_)
  have loop : ∀ (fu : Nat) (i : Int32), t.toInt - i.toInt ≤ (fu : Nat) → ¬ i < 0 → ¬ i < own_mx f (sc - 2) → (∀ j, ¬ j < own_mx f (sc - 2) → j < i → ¬ own_M2 [y0, y1, y2, y3, y4, y5, y6, y7] t j ∧ ¬ own_M3 [y0, y1, y2, y3, y4, y5, y6, y7] t j) → G p l e ({ frames := 1, cells := 0, slots := 0, locals := 13 } : Room) s m #[.ref a, .int f, .int sc, .int t] below meth c Z.heap.size (fun v h' => ∃ r, v = some (.int r) ∧ h0 = h' ∧ own_R [y0, y1, y2, y3, y4, y5, y6, y7] (own_mx f (sc - 2)) t r) h0 0 0 9 #[.val (.ref a), .val (.int f), .val (.int sc), .val (.int t), .val (.int i)] [] := by
    intro fu
    induction fu with
    | zero =>
      intro i hfu hi0 his inv
      have hz : ¬ i < t := by rw [Int32.lt_iff_toInt_lt]; omega
      refine g_iload cx d4_9 rfl ?_
      refine g_iloadN cx d4_11 rfl ?_
      refine g_icmp_ge cx d4_12 (fun hc12 => ?_) (fun hc12 => absurd hc12 hz)
      refine g_iconst cx d4_89 (v := (-1 : Int32)) rfl ?_
      refine g_retI cx d4_90 rfl (by decide) (by decide) ?_
      exact ⟨_, rfl, rfl, Or.inl ⟨rfl, fun j a b => inv j a (own_jl b hc12)⟩⟩
    | succ fu ih =>
      intro i hfu hi0 his inv
      refine g_iload cx d4_9 rfl ?_
      refine g_iloadN cx d4_11 rfl ?_
      refine g_icmp_ge cx d4_12 (fun hc12 => ?_) (fun hc12 => ?_)
      · refine g_iconst cx d4_89 (v := (-1 : Int32)) rfl ?_
        refine g_retI cx d4_90 rfl (by decide) (by decide) ?_
        exact ⟨_, rfl, rfl, Or.inl ⟨rfl, fun j a b => inv j a (own_jl b hc12)⟩⟩
      · refine g_aloadN cx d4_15 rfl rfl ?_
        refine g_iload cx d4_16 rfl ?_
        refine g_baload cx d4_18 A_a.1 ⟨hi0, own_lt8 hc12 ht⟩ (v := (.int (own_at [y0, y1, y2, y3, y4, y5, y6, y7] i))) (own_get [y0, y1, y2, y3, y4, y5, y6, y7] i) ?_
        refine g_bipush cx d4_19 (v := (10 : Int32)) rfl ?_
        refine g_icmp_ne cx d4_21 (fun hc21 => ?_) (fun hc21 => ?_)
        · refine g_iinc cx d4_83 rfl (v := (1 : Int32)) rfl (Ls' := #[.val (.ref a), .val (.int f), .val (.int sc), .val (.int t), .val (.int (i + (1 : Int32)))]) rfl ?_
          refine g_goto cx d4_86 ?_
          exact ih (i + 1) (own_ms hi0 hc12 ht hfu) (own_p1 hi0 hc12 ht).1 (own_sx hi0 hc12 ht his) (own_ext hi0 hc12 ht inv ⟨fun z => hc21 z.1, fun z => hc21 z.1⟩)
        · refine g_iload cx d4_24 rfl ?_
          refine g_iconst cx d4_26 (v := (1 : Int32)) rfl ?_
          refine g_iadd cx d4_27 ?_
          refine g_iloadN cx d4_28 rfl ?_
          refine g_icmp_ge cx d4_29 (fun hc29 => ?_) (fun hc29 => ?_)
          · refine g_iload cx d4_48 rfl ?_
            refine g_iconst cx d4_50 (v := (2 : Int32)) rfl ?_
            refine g_iadd cx d4_51 ?_
            refine g_iloadN cx d4_52 rfl ?_
            refine g_icmp_ge cx d4_53 (fun hc53 => ?_) (fun hc53 => ?_)
            · refine g_iinc cx d4_83 rfl (v := (1 : Int32)) rfl (Ls' := #[.val (.ref a), .val (.int f), .val (.int sc), .val (.int t), .val (.int (i + (1 : Int32)))]) rfl ?_
              refine g_goto cx d4_86 ?_
              exact ih (i + 1) (own_ms hi0 hc12 ht hfu) (own_p1 hi0 hc12 ht).1 (own_sx hi0 hc12 ht his) (own_ext hi0 hc12 ht inv ⟨fun z => hc29 z.2.1, fun z => hc53 z.2.1⟩)
            · refine g_aloadN cx d4_56 rfl rfl ?_
              refine g_iload cx d4_57 rfl ?_
              refine g_iconst cx d4_59 (v := (1 : Int32)) rfl ?_
              refine g_iadd cx d4_60 ?_
              refine g_baload cx d4_61 A_a.1 ⟨(own_p1 hi0 hc12 ht).1, own_q1 hi0 hc12 ht hc53⟩ (v := (.int (own_at [y0, y1, y2, y3, y4, y5, y6, y7] (i + (1 : Int32))))) (own_get [y0, y1, y2, y3, y4, y5, y6, y7] (i + (1 : Int32))) ?_
              refine g_bipush cx d4_62 (v := (13 : Int32)) rfl ?_
              refine g_icmp_ne cx d4_64 (fun hc64 => ?_) (fun hc64 => ?_)
              · refine g_iinc cx d4_83 rfl (v := (1 : Int32)) rfl (Ls' := #[.val (.ref a), .val (.int f), .val (.int sc), .val (.int t), .val (.int (i + (1 : Int32)))]) rfl ?_
                refine g_goto cx d4_86 ?_
                exact ih (i + 1) (own_ms hi0 hc12 ht hfu) (own_p1 hi0 hc12 ht).1 (own_sx hi0 hc12 ht his) (own_ext hi0 hc12 ht inv ⟨fun z => hc29 z.2.1, fun z => hc64 z.2.2.1⟩)
              · refine g_aloadN cx d4_67 rfl rfl ?_
                refine g_iload cx d4_68 rfl ?_
                refine g_iconst cx d4_70 (v := (2 : Int32)) rfl ?_
                refine g_iadd cx d4_71 ?_
                refine g_baload cx d4_72 A_a.1 ⟨(own_p1 hi0 hc12 ht).2, own_lt8 hc53 ht⟩ (v := (.int (own_at [y0, y1, y2, y3, y4, y5, y6, y7] (i + (2 : Int32))))) (own_get [y0, y1, y2, y3, y4, y5, y6, y7] (i + (2 : Int32))) ?_
                refine g_bipush cx d4_73 (v := (10 : Int32)) rfl ?_
                refine g_icmp_ne cx d4_75 (fun hc75 => ?_) (fun hc75 => ?_)
                · refine g_iinc cx d4_83 rfl (v := (1 : Int32)) rfl (Ls' := #[.val (.ref a), .val (.int f), .val (.int sc), .val (.int t), .val (.int (i + (1 : Int32)))]) rfl ?_
                  refine g_goto cx d4_86 ?_
                  exact ih (i + 1) (own_ms hi0 hc12 ht hfu) (own_p1 hi0 hc12 ht).1 (own_sx hi0 hc12 ht his) (own_ext hi0 hc12 ht inv ⟨fun z => hc29 z.2.1, fun z => hc75 z.2.2.2⟩)
                · refine g_iload cx d4_78 rfl ?_
                  refine g_iconst cx d4_80 (v := (3 : Int32)) rfl ?_
                  refine g_iadd cx d4_81 ?_
                  refine g_retI cx d4_82 rfl (by decide) (by decide) ?_
                  exact ⟨_, rfl, rfl, Or.inr ⟨i, his, hc12, inv, Or.inr ⟨fun z => hc29 z.2.1, ⟨hc21, hc53, hc64, hc75⟩, rfl⟩⟩⟩
          · refine g_aloadN cx d4_32 rfl rfl ?_
            refine g_iload cx d4_33 rfl ?_
            refine g_iconst cx d4_35 (v := (1 : Int32)) rfl ?_
            refine g_iadd cx d4_36 ?_
            refine g_baload cx d4_37 A_a.1 ⟨(own_p1 hi0 hc12 ht).1, own_lt8 hc29 ht⟩ (v := (.int (own_at [y0, y1, y2, y3, y4, y5, y6, y7] (i + (1 : Int32))))) (own_get [y0, y1, y2, y3, y4, y5, y6, y7] (i + (1 : Int32))) ?_
            refine g_bipush cx d4_38 (v := (10 : Int32)) rfl ?_
            refine g_icmp_ne cx d4_40 (fun hc40 => ?_) (fun hc40 => ?_)
            · refine g_iload cx d4_48 rfl ?_
              refine g_iconst cx d4_50 (v := (2 : Int32)) rfl ?_
              refine g_iadd cx d4_51 ?_
              refine g_iloadN cx d4_52 rfl ?_
              refine g_icmp_ge cx d4_53 (fun hc53 => ?_) (fun hc53 => ?_)
              · refine g_iinc cx d4_83 rfl (v := (1 : Int32)) rfl (Ls' := #[.val (.ref a), .val (.int f), .val (.int sc), .val (.int t), .val (.int (i + (1 : Int32)))]) rfl ?_
                refine g_goto cx d4_86 ?_
                exact ih (i + 1) (own_ms hi0 hc12 ht hfu) (own_p1 hi0 hc12 ht).1 (own_sx hi0 hc12 ht his) (own_ext hi0 hc12 ht inv ⟨fun z => hc40 z.2.2, fun z => hc53 z.2.1⟩)
              · refine g_aloadN cx d4_56 rfl rfl ?_
                refine g_iload cx d4_57 rfl ?_
                refine g_iconst cx d4_59 (v := (1 : Int32)) rfl ?_
                refine g_iadd cx d4_60 ?_
                refine g_baload cx d4_61 A_a.1 ⟨(own_p1 hi0 hc12 ht).1, own_q1 hi0 hc12 ht hc53⟩ (v := (.int (own_at [y0, y1, y2, y3, y4, y5, y6, y7] (i + (1 : Int32))))) (own_get [y0, y1, y2, y3, y4, y5, y6, y7] (i + (1 : Int32))) ?_
                refine g_bipush cx d4_62 (v := (13 : Int32)) rfl ?_
                refine g_icmp_ne cx d4_64 (fun hc64 => ?_) (fun hc64 => ?_)
                · refine g_iinc cx d4_83 rfl (v := (1 : Int32)) rfl (Ls' := #[.val (.ref a), .val (.int f), .val (.int sc), .val (.int t), .val (.int (i + (1 : Int32)))]) rfl ?_
                  refine g_goto cx d4_86 ?_
                  exact ih (i + 1) (own_ms hi0 hc12 ht hfu) (own_p1 hi0 hc12 ht).1 (own_sx hi0 hc12 ht his) (own_ext hi0 hc12 ht inv ⟨fun z => hc40 z.2.2, fun z => hc64 z.2.2.1⟩)
                · refine g_aloadN cx d4_67 rfl rfl ?_
                  refine g_iload cx d4_68 rfl ?_
                  refine g_iconst cx d4_70 (v := (2 : Int32)) rfl ?_
                  refine g_iadd cx d4_71 ?_
                  refine g_baload cx d4_72 A_a.1 ⟨(own_p1 hi0 hc12 ht).2, own_lt8 hc53 ht⟩ (v := (.int (own_at [y0, y1, y2, y3, y4, y5, y6, y7] (i + (2 : Int32))))) (own_get [y0, y1, y2, y3, y4, y5, y6, y7] (i + (2 : Int32))) ?_
                  refine g_bipush cx d4_73 (v := (10 : Int32)) rfl ?_
                  refine g_icmp_ne cx d4_75 (fun hc75 => ?_) (fun hc75 => ?_)
                  · refine g_iinc cx d4_83 rfl (v := (1 : Int32)) rfl (Ls' := #[.val (.ref a), .val (.int f), .val (.int sc), .val (.int t), .val (.int (i + (1 : Int32)))]) rfl ?_
                    refine g_goto cx d4_86 ?_
                    exact ih (i + 1) (own_ms hi0 hc12 ht hfu) (own_p1 hi0 hc12 ht).1 (own_sx hi0 hc12 ht his) (own_ext hi0 hc12 ht inv ⟨fun z => hc40 z.2.2, fun z => hc75 z.2.2.2⟩)
                  · refine g_iload cx d4_78 rfl ?_
                    refine g_iconst cx d4_80 (v := (3 : Int32)) rfl ?_
                    refine g_iadd cx d4_81 ?_
                    refine g_retI cx d4_82 rfl (by decide) (by decide) ?_
                    exact ⟨_, rfl, rfl, Or.inr ⟨i, his, hc12, inv, Or.inr ⟨fun z => hc40 z.2.2, ⟨hc21, hc53, hc64, hc75⟩, rfl⟩⟩⟩
            · refine g_iload cx d4_43 rfl ?_
              refine g_iconst cx d4_45 (v := (2 : Int32)) rfl ?_
              refine g_iadd cx d4_46 ?_
              refine g_retI cx d4_47 rfl (by decide) (by decide) ?_
              exact ⟨_, rfl, rfl, Or.inr ⟨i, his, hc12, inv, Or.inl ⟨⟨hc21, hc29, hc40⟩, rfl⟩⟩⟩
  refine g_iloadN cx d4_0 rfl ?_
  refine g_iloadN cx d4_1 rfl ?_
  refine g_iconst cx d4_2 (v := (2 : Int32)) rfl ?_
  refine g_isub cx d4_3 ?_
  refine g_static cx (y := (⟨"java/lang/Math", "max", "(II)I"⟩ : MethodName)) d4_4 (hw _ (List.mem_of_getElem? (i := 18) rfl)) (hw _ (List.mem_of_getElem? (i := 8) rfl)) (hw _ (List.mem_of_getElem? (i := 9) rfl)) (hw _ (List.mem_of_getElem? (i := 10) rfl)) (by decide) (bytes := jdk_29_method_65_code) (maxL' := 2) (M := (rmM l Z a0 hw _ _ _)) rfl (lenOf pd_0 rfl) (by decide) (W := 0) (Nat.le_of_eq rfl) (by decide) (k' := 0) (n' := 0) rfl rfl (by decide) (by decide) (argsL := [(.int f), (.int (sc - (2 : Int32)))]) (rest := []) rfl (fun v2 h1 q3 => ?_)
  obtain ⟨rfl, rfl⟩ := q3
  refine G.cast (st' := [(.int (own_mx f (sc - (2 : Int32))))]) ?_ rfl
  refine g_istore cx d4_7 (Ls' := #[.val (.ref a), .val (.int f), .val (.int sc), .val (.int t), .val (.int (own_mx f (sc - (2 : Int32))))]) rfl ?_
  exact loop _ _ (own_fu t _) (own_mxn hf) Int32.lt_irrefl (fun j a b => absurd b a)
theorem own_fr (f t : Int32) (h : ¬ t < 0) (h8 : ¬ 8 < t) : ¬ (f &&& 2147483647) % (t + 1) < 0 := by
  have e1 := c_mask f 2147483647 31 (by decide) (by decide)
  have e2 := (c_iremV (f &&& 2147483647) (t + 1)).1 (by omega) (own_t1 h h8).2
  have z0 : (0 : Int32).toInt = 0 := rfl
  rw [Int32.lt_iff_toInt_lt]; omega
theorem d0_0 : Dc code 0 (.bipush 8) 2 2 := ⟨by decide +kernel, rfl⟩
theorem d0_2 : Dc code 2 (.newarray .byte) 2 4 := ⟨by decide +kernel, rfl⟩
theorem d0_4 : Dc code 4 (.astore 7) 2 6 := ⟨by decide +kernel, rfl⟩
theorem d0_6 : Dc code 6 (.aload 7) 2 8 := ⟨by decide +kernel, rfl⟩
theorem d0_8 : Dc code 8 (.iconst 0) 1 9 := ⟨by decide +kernel, rfl⟩
theorem d0_9 : Dc code 9 (.lload_n 0) 1 10 := ⟨by decide +kernel, rfl⟩
theorem d0_10 : Dc code 10 (.lload_n 2) 1 11 := ⟨by decide +kernel, rfl⟩
theorem d0_11 : Dc code 11 (.iconst 0) 1 12 := ⟨by decide +kernel, rfl⟩
theorem pd_1 : parseMethodDescriptor "(JJI)B" = some ⟨[.long, .long, .int], some .byte⟩ := by decide +kernel
theorem d0_12 : Dc code 12 (.invokestatic 9) 3 15 := ⟨by decide +kernel, rfl⟩
theorem d0_15 : Dc code 15 (.bastore) 1 16 := ⟨by decide +kernel, rfl⟩
theorem d0_16 : Dc code 16 (.aload 7) 2 18 := ⟨by decide +kernel, rfl⟩
theorem d0_18 : Dc code 18 (.iconst 1) 1 19 := ⟨by decide +kernel, rfl⟩
theorem d0_19 : Dc code 19 (.lload_n 0) 1 20 := ⟨by decide +kernel, rfl⟩
theorem d0_20 : Dc code 20 (.lload_n 2) 1 21 := ⟨by decide +kernel, rfl⟩
theorem d0_21 : Dc code 21 (.iconst 1) 1 22 := ⟨by decide +kernel, rfl⟩
theorem d0_22 : Dc code 22 (.invokestatic 9) 3 25 := ⟨by decide +kernel, rfl⟩
theorem d0_25 : Dc code 25 (.bastore) 1 26 := ⟨by decide +kernel, rfl⟩
theorem d0_26 : Dc code 26 (.aload 7) 2 28 := ⟨by decide +kernel, rfl⟩
theorem d0_28 : Dc code 28 (.iconst 2) 1 29 := ⟨by decide +kernel, rfl⟩
theorem d0_29 : Dc code 29 (.lload_n 0) 1 30 := ⟨by decide +kernel, rfl⟩
theorem d0_30 : Dc code 30 (.lload_n 2) 1 31 := ⟨by decide +kernel, rfl⟩
theorem d0_31 : Dc code 31 (.iconst 2) 1 32 := ⟨by decide +kernel, rfl⟩
theorem d0_32 : Dc code 32 (.invokestatic 9) 3 35 := ⟨by decide +kernel, rfl⟩
theorem d0_35 : Dc code 35 (.bastore) 1 36 := ⟨by decide +kernel, rfl⟩
theorem d0_36 : Dc code 36 (.aload 7) 2 38 := ⟨by decide +kernel, rfl⟩
theorem d0_38 : Dc code 38 (.iconst 3) 1 39 := ⟨by decide +kernel, rfl⟩
theorem d0_39 : Dc code 39 (.lload_n 0) 1 40 := ⟨by decide +kernel, rfl⟩
theorem d0_40 : Dc code 40 (.lload_n 2) 1 41 := ⟨by decide +kernel, rfl⟩
theorem d0_41 : Dc code 41 (.iconst 3) 1 42 := ⟨by decide +kernel, rfl⟩
theorem d0_42 : Dc code 42 (.invokestatic 9) 3 45 := ⟨by decide +kernel, rfl⟩
theorem d0_45 : Dc code 45 (.bastore) 1 46 := ⟨by decide +kernel, rfl⟩
theorem d0_46 : Dc code 46 (.aload 7) 2 48 := ⟨by decide +kernel, rfl⟩
theorem d0_48 : Dc code 48 (.iconst 4) 1 49 := ⟨by decide +kernel, rfl⟩
theorem d0_49 : Dc code 49 (.lload_n 0) 1 50 := ⟨by decide +kernel, rfl⟩
theorem d0_50 : Dc code 50 (.lload_n 2) 1 51 := ⟨by decide +kernel, rfl⟩
theorem d0_51 : Dc code 51 (.iconst 4) 1 52 := ⟨by decide +kernel, rfl⟩
theorem d0_52 : Dc code 52 (.invokestatic 9) 3 55 := ⟨by decide +kernel, rfl⟩
theorem d0_55 : Dc code 55 (.bastore) 1 56 := ⟨by decide +kernel, rfl⟩
theorem d0_56 : Dc code 56 (.aload 7) 2 58 := ⟨by decide +kernel, rfl⟩
theorem d0_58 : Dc code 58 (.iconst 5) 1 59 := ⟨by decide +kernel, rfl⟩
theorem d0_59 : Dc code 59 (.lload_n 0) 1 60 := ⟨by decide +kernel, rfl⟩
theorem d0_60 : Dc code 60 (.lload_n 2) 1 61 := ⟨by decide +kernel, rfl⟩
theorem d0_61 : Dc code 61 (.iconst 5) 1 62 := ⟨by decide +kernel, rfl⟩
theorem d0_62 : Dc code 62 (.invokestatic 9) 3 65 := ⟨by decide +kernel, rfl⟩
theorem d0_65 : Dc code 65 (.bastore) 1 66 := ⟨by decide +kernel, rfl⟩
theorem d0_66 : Dc code 66 (.aload 7) 2 68 := ⟨by decide +kernel, rfl⟩
theorem d0_68 : Dc code 68 (.bipush 6) 2 70 := ⟨by decide +kernel, rfl⟩
theorem d0_70 : Dc code 70 (.lload_n 0) 1 71 := ⟨by decide +kernel, rfl⟩
theorem d0_71 : Dc code 71 (.lload_n 2) 1 72 := ⟨by decide +kernel, rfl⟩
theorem d0_72 : Dc code 72 (.bipush 6) 2 74 := ⟨by decide +kernel, rfl⟩
theorem d0_74 : Dc code 74 (.invokestatic 9) 3 77 := ⟨by decide +kernel, rfl⟩
theorem d0_77 : Dc code 77 (.bastore) 1 78 := ⟨by decide +kernel, rfl⟩
theorem d0_78 : Dc code 78 (.aload 7) 2 80 := ⟨by decide +kernel, rfl⟩
theorem d0_80 : Dc code 80 (.bipush 7) 2 82 := ⟨by decide +kernel, rfl⟩
theorem d0_82 : Dc code 82 (.lload_n 0) 1 83 := ⟨by decide +kernel, rfl⟩
theorem d0_83 : Dc code 83 (.lload_n 2) 1 84 := ⟨by decide +kernel, rfl⟩
theorem d0_84 : Dc code 84 (.bipush 7) 2 86 := ⟨by decide +kernel, rfl⟩
theorem d0_86 : Dc code 86 (.invokestatic 9) 3 89 := ⟨by decide +kernel, rfl⟩
theorem d0_89 : Dc code 89 (.bastore) 1 90 := ⟨by decide +kernel, rfl⟩
theorem d0_90 : Dc code 90 (.iload 4) 2 92 := ⟨by decide +kernel, rfl⟩
theorem d0_92 : Dc code 92 (.ldc 15) 2 94 := ⟨by decide +kernel, rfl⟩
theorem d0_94 : Dc code 94 (.iand) 1 95 := ⟨by decide +kernel, rfl⟩
theorem d0_95 : Dc code 95 (.bipush 9) 2 97 := ⟨by decide +kernel, rfl⟩
theorem d0_97 : Dc code 97 (.irem) 1 98 := ⟨by decide +kernel, rfl⟩
theorem d0_98 : Dc code 98 (.istore 8) 2 100 := ⟨by decide +kernel, rfl⟩
theorem d0_100 : Dc code 100 (.iload 5) 2 102 := ⟨by decide +kernel, rfl⟩
theorem d0_102 : Dc code 102 (.ldc 15) 2 104 := ⟨by decide +kernel, rfl⟩
theorem d0_104 : Dc code 104 (.iand) 1 105 := ⟨by decide +kernel, rfl⟩
theorem d0_105 : Dc code 105 (.iload 8) 2 107 := ⟨by decide +kernel, rfl⟩
theorem d0_107 : Dc code 107 (.iconst 1) 1 108 := ⟨by decide +kernel, rfl⟩
theorem d0_108 : Dc code 108 (.iadd) 1 109 := ⟨by decide +kernel, rfl⟩
theorem d0_109 : Dc code 109 (.irem) 1 110 := ⟨by decide +kernel, rfl⟩
theorem d0_110 : Dc code 110 (.istore 9) 2 112 := ⟨by decide +kernel, rfl⟩
theorem d0_112 : Dc code 112 (.iload 6) 2 114 := ⟨by decide +kernel, rfl⟩
theorem d0_114 : Dc code 114 (.ldc 15) 2 116 := ⟨by decide +kernel, rfl⟩
theorem d0_116 : Dc code 116 (.iand) 1 117 := ⟨by decide +kernel, rfl⟩
theorem d0_117 : Dc code 117 (.iload 8) 2 119 := ⟨by decide +kernel, rfl⟩
theorem d0_119 : Dc code 119 (.iconst 1) 1 120 := ⟨by decide +kernel, rfl⟩
theorem d0_120 : Dc code 120 (.iadd) 1 121 := ⟨by decide +kernel, rfl⟩
theorem d0_121 : Dc code 121 (.irem) 1 122 := ⟨by decide +kernel, rfl⟩
theorem d0_122 : Dc code 122 (.istore 10) 2 124 := ⟨by decide +kernel, rfl⟩
theorem d0_124 : Dc code 124 (.iload 9) 2 126 := ⟨by decide +kernel, rfl⟩
theorem d0_126 : Dc code 126 (.iload 10) 2 128 := ⟨by decide +kernel, rfl⟩
theorem d0_128 : Dc code 128 (.iconst 2) 1 129 := ⟨by decide +kernel, rfl⟩
theorem d0_129 : Dc code 129 (.isub) 1 130 := ⟨by decide +kernel, rfl⟩
theorem d0_130 : Dc code 130 (.invokestatic 16) 3 133 := ⟨by decide +kernel, rfl⟩
theorem d0_133 : Dc code 133 (.istore 11) 2 135 := ⟨by decide +kernel, rfl⟩
theorem d0_135 : Dc code 135 (.aload 7) 2 137 := ⟨by decide +kernel, rfl⟩
theorem d0_137 : Dc code 137 (.iconst 2) 1 138 := ⟨by decide +kernel, rfl⟩
theorem d0_138 : Dc code 138 (.iload 11) 2 140 := ⟨by decide +kernel, rfl⟩
theorem d0_140 : Dc code 140 (.iload 8) 2 142 := ⟨by decide +kernel, rfl⟩
theorem pd_2 : parseMethodDescriptor "([BIII)Z" = some ⟨[(.array .byte), .int, .int, .int], some .boolean⟩ := by decide +kernel
theorem d0_142 : Dc code 142 (.invokestatic 22) 3 145 := ⟨by decide +kernel, rfl⟩
theorem d0_145 : Bi code 145 (Instr.ifCond .eq) 154 148 := ⟨9, by decide +kernel, by decide, by decide, rfl⟩
theorem d0_154 : Dc code 154 (.aload 7) 2 156 := ⟨by decide +kernel, rfl⟩
theorem d0_156 : Dc code 156 (.iconst 3) 1 157 := ⟨by decide +kernel, rfl⟩
theorem d0_157 : Dc code 157 (.iload 11) 2 159 := ⟨by decide +kernel, rfl⟩
theorem d0_159 : Dc code 159 (.iload 8) 2 161 := ⟨by decide +kernel, rfl⟩
theorem d0_161 : Dc code 161 (.invokestatic 22) 3 164 := ⟨by decide +kernel, rfl⟩
theorem d0_164 : Bi code 164 (Instr.ifCond .eq) 173 167 := ⟨9, by decide +kernel, by decide, by decide, rfl⟩
theorem d0_173 : Dc code 173 (.aload 7) 2 175 := ⟨by decide +kernel, rfl⟩
theorem d0_175 : Dc code 175 (.iconst 4) 1 176 := ⟨by decide +kernel, rfl⟩
theorem d0_176 : Dc code 176 (.iload 11) 2 178 := ⟨by decide +kernel, rfl⟩
theorem d0_178 : Dc code 178 (.iload 8) 2 180 := ⟨by decide +kernel, rfl⟩
theorem d0_180 : Dc code 180 (.invokestatic 22) 3 183 := ⟨by decide +kernel, rfl⟩
theorem d0_183 : Bi code 183 (Instr.ifCond .eq) 192 186 := ⟨9, by decide +kernel, by decide, by decide, rfl⟩
theorem d0_192 : Dc code 192 (.aload 7) 2 194 := ⟨by decide +kernel, rfl⟩
theorem d0_194 : Dc code 194 (.iconst 5) 1 195 := ⟨by decide +kernel, rfl⟩
theorem d0_195 : Dc code 195 (.iload 11) 2 197 := ⟨by decide +kernel, rfl⟩
theorem d0_197 : Dc code 197 (.iload 8) 2 199 := ⟨by decide +kernel, rfl⟩
theorem d0_199 : Dc code 199 (.invokestatic 22) 3 202 := ⟨by decide +kernel, rfl⟩
theorem d0_202 : Bi code 202 (Instr.ifCond .eq) 211 205 := ⟨9, by decide +kernel, by decide, by decide, rfl⟩
theorem d0_211 : Dc code 211 (.aload 7) 2 213 := ⟨by decide +kernel, rfl⟩
theorem d0_213 : Dc code 213 (.bipush 6) 2 215 := ⟨by decide +kernel, rfl⟩
theorem d0_215 : Dc code 215 (.iload 11) 2 217 := ⟨by decide +kernel, rfl⟩
theorem d0_217 : Dc code 217 (.iload 8) 2 219 := ⟨by decide +kernel, rfl⟩
theorem d0_219 : Dc code 219 (.invokestatic 22) 3 222 := ⟨by decide +kernel, rfl⟩
theorem d0_222 : Bi code 222 (Instr.ifCond .eq) 232 225 := ⟨10, by decide +kernel, by decide, by decide, rfl⟩
theorem d0_232 : Dc code 232 (.aload 7) 2 234 := ⟨by decide +kernel, rfl⟩
theorem d0_234 : Dc code 234 (.bipush 7) 2 236 := ⟨by decide +kernel, rfl⟩
theorem d0_236 : Dc code 236 (.iload 11) 2 238 := ⟨by decide +kernel, rfl⟩
theorem d0_238 : Dc code 238 (.iload 8) 2 240 := ⟨by decide +kernel, rfl⟩
theorem d0_240 : Dc code 240 (.invokestatic 22) 3 243 := ⟨by decide +kernel, rfl⟩
theorem d0_243 : Bi code 243 (Instr.ifCond .eq) 253 246 := ⟨10, by decide +kernel, by decide, by decide, rfl⟩
theorem d0_253 : Dc code 253 (.aload 7) 2 255 := ⟨by decide +kernel, rfl⟩
theorem d0_255 : Dc code 255 (.bipush 8) 2 257 := ⟨by decide +kernel, rfl⟩
theorem d0_257 : Dc code 257 (.iload 11) 2 259 := ⟨by decide +kernel, rfl⟩
theorem d0_259 : Dc code 259 (.iload 8) 2 261 := ⟨by decide +kernel, rfl⟩
theorem d0_261 : Dc code 261 (.invokestatic 22) 3 264 := ⟨by decide +kernel, rfl⟩
theorem d0_264 : Bi code 264 (Instr.ifCond .eq) 274 267 := ⟨10, by decide +kernel, by decide, by decide, rfl⟩
theorem d0_274 : Dc code 274 (.iconst (-1)) 1 275 := ⟨by decide +kernel, rfl⟩
theorem d0_275 : Dc code 275 (.istore 12) 2 277 := ⟨by decide +kernel, rfl⟩
theorem d0_277 : Dc code 277 (.aload 7) 2 279 := ⟨by decide +kernel, rfl⟩
theorem d0_279 : Dc code 279 (.iload 9) 2 281 := ⟨by decide +kernel, rfl⟩
theorem d0_281 : Dc code 281 (.iload 10) 2 283 := ⟨by decide +kernel, rfl⟩
theorem d0_283 : Dc code 283 (.iload 8) 2 285 := ⟨by decide +kernel, rfl⟩
theorem pd_3 : parseMethodDescriptor "([BIII)I" = some ⟨[(.array .byte), .int, .int, .int], some .int⟩ := by decide +kernel
theorem d0_285 : Dc code 285 (.invokestatic 26) 3 288 := ⟨by decide +kernel, rfl⟩
theorem d0_288 : Dc code 288 (.iload 12) 2 290 := ⟨by decide +kernel, rfl⟩
theorem d0_290 : Bi code 290 (Instr.if_icmp .ne) 297 293 := ⟨7, by decide +kernel, by decide, by decide, rfl⟩
theorem d0_297 : Dc code 297 (.iconst 0) 1 298 := ⟨by decide +kernel, rfl⟩
theorem d0_298 : Dc code 298 (.ireturn) 1 299 := ⟨by decide +kernel, rfl⟩
theorem d0_293 : Dc code 293 (.iconst 1) 1 294 := ⟨by decide +kernel, rfl⟩
theorem d0_294 : Bi code 294 (Instr.goto) 298 297 := ⟨4, by decide +kernel, by decide, by decide, rfl⟩
theorem d0_267 : Dc code 267 (.bipush 8) 2 269 := ⟨by decide +kernel, rfl⟩
theorem d0_269 : Dc code 269 (.istore 12) 2 271 := ⟨by decide +kernel, rfl⟩
theorem d0_271 : Bi code 271 (Instr.goto) 277 274 := ⟨6, by decide +kernel, by decide, by decide, rfl⟩
theorem d0_246 : Dc code 246 (.bipush 7) 2 248 := ⟨by decide +kernel, rfl⟩
theorem d0_248 : Dc code 248 (.istore 12) 2 250 := ⟨by decide +kernel, rfl⟩
theorem d0_250 : Bi code 250 (Instr.goto) 277 253 := ⟨27, by decide +kernel, by decide, by decide, rfl⟩
theorem d0_225 : Dc code 225 (.bipush 6) 2 227 := ⟨by decide +kernel, rfl⟩
theorem d0_227 : Dc code 227 (.istore 12) 2 229 := ⟨by decide +kernel, rfl⟩
theorem d0_229 : Bi code 229 (Instr.goto) 277 232 := ⟨48, by decide +kernel, by decide, by decide, rfl⟩
theorem d0_205 : Dc code 205 (.iconst 5) 1 206 := ⟨by decide +kernel, rfl⟩
theorem d0_206 : Dc code 206 (.istore 12) 2 208 := ⟨by decide +kernel, rfl⟩
theorem d0_208 : Bi code 208 (Instr.goto) 277 211 := ⟨69, by decide +kernel, by decide, by decide, rfl⟩
theorem d0_186 : Dc code 186 (.iconst 4) 1 187 := ⟨by decide +kernel, rfl⟩
theorem d0_187 : Dc code 187 (.istore 12) 2 189 := ⟨by decide +kernel, rfl⟩
theorem d0_189 : Bi code 189 (Instr.goto) 277 192 := ⟨88, by decide +kernel, by decide, by decide, rfl⟩
theorem d0_167 : Dc code 167 (.iconst 3) 1 168 := ⟨by decide +kernel, rfl⟩
theorem d0_168 : Dc code 168 (.istore 12) 2 170 := ⟨by decide +kernel, rfl⟩
theorem d0_170 : Bi code 170 (Instr.goto) 277 173 := ⟨107, by decide +kernel, by decide, by decide, rfl⟩
theorem d0_148 : Dc code 148 (.iconst 2) 1 149 := ⟨by decide +kernel, rfl⟩
theorem d0_149 : Dc code 149 (.istore 12) 2 151 := ⟨by decide +kernel, rfl⟩
theorem d0_151 : Bi code 151 (Instr.goto) 277 154 := ⟨126, by decide +kernel, by decide, by decide, rfl⟩
theorem pn_rm0 : plainName "com/example/dyn_authz/dynauthz/service/RequestHeadEndPinLaw" = true := by first | (simp [plainName, overriddenIn]; done) | decide +kernel
set_option maxRecDepth 65536 in
set_option maxHeartbeats 40000000 in
theorem rm0 (l : Launch) (Z : State) (a0 : Array Value) (hw : ∀ d ∈ tables_1, d.before a0 Z = true) (sl rv : Int64) (t f sc : Int32) (h0 : Heap) (OL : Old Z Z.heap.size h0) :
    Met l Z x code maxLocals ret room_1 #[(.long sl), (.long rv), (.int t), (.int f), (.int sc)] h0 (fun v _ => v = some (.int 1)) := by
  refine met_of (Ls := #[.val (.long sl), .second, .val (.long rv), .second, .val (.int t), .val (.int f), .val (.int sc), .unset, .unset, .unset, .unset, .unset, .unset]) (plainFor_of_name pn_rm0) (fun m => by first | (simp [entryFrame, mkF, argsToLocals, Value.category, maxLocals]; done) | rfl) (fun p e s m below meth c cx => ?_)
  refine g_bipush cx d0_0 (v := (8 : Int32)) rfl ?_
  refine g_newarray cx (ad := "[B") (by decide) d0_2 (hw _ (List.mem_of_getElem? (i := 0) rfl)) (by decide) (cap := 8) (by decide) (by decide) (k' := 1) (n' := 8) rfl rfl (by decide) (by decide) (fun h1 b2 cA3 gb4 E5 X6 => ?_)
  have g_b2 : Z.heap.size ≤ b2 := by rw [gb4]; exact OL.2.1
  have OL := OL.ext E5
  have A_b2 : Arx Z h1 b2 cA3 .byte (8 : Int32) [(.int (0 : Int32)), (.int (0 : Int32)), (.int (0 : Int32)), (.int (0 : Int32)), (.int (0 : Int32)), (.int (0 : Int32)), (.int (0 : Int32)), (.int (0 : Int32))] (.int (0 : Int32)) "[B" := X6.pad (pad_rep [] (.int (0 : Int32)) 8)
  refine g_astore cx d0_4 rfl (Ls' := #[.val (.long sl), .second, .val (.long rv), .second, .val (.int t), .val (.int f), .val (.int sc), .val (.ref b2), .unset, .unset, .unset, .unset, .unset]) rfl ?_
  refine g_aload cx d0_6 rfl rfl ?_
  refine g_iconst cx d0_8 (v := (0 : Int32)) rfl ?_
  refine g_lloadN cx d0_9 rfl ?_
  refine g_lloadN cx d0_10 rfl ?_
  refine g_iconst cx d0_11 (v := (0 : Int32)) rfl ?_
  refine g_static cx (y := (⟨"com/example/dyn_authz/dynauthz/service/RequestHeadEndPinLaw", "pick", "(JJI)B"⟩ : MethodName)) d0_12 (hw _ (List.mem_of_getElem? (i := 1) rfl)) (hw _ (List.mem_of_getElem? (i := 2) rfl)) (hw _ (List.mem_of_getElem? (i := 3) rfl)) (hw _ (List.mem_of_getElem? (i := 4) rfl)) (by decide) (bytes := method_2_code) (maxL' := 6) (M := (rmP l Z a0 hw _ _ _ _)) rfl (lenOf pd_1 rfl) (by decide) (W := 2) (Nat.le_of_eq rfl) (by decide) (k' := 1) (n' := 8) rfl rfl (by decide) (by decide) (argsL := [(.long sl), (.long rv), (.int (0 : Int32))]) (rest := [(.int (0 : Int32)), (.ref b2)]) rfl (fun v9 h8 q10 => ?_)
  obtain ⟨z7, rfl, rfl⟩ := q10
  refine G.cast (st' := [(.int z7), (.int (0 : Int32)), (.ref b2)]) ?_ rfl
  refine g_bastore cx d0_15 A_b2 ⟨by decide, by decide⟩ (Nat.le_of_ble_eq_true rfl) g_b2 (fun h11 W12 AA13 => ?_)
  have A_b2 : Arx Z h11 b2 cA3 .byte (8 : Int32) [(.int (nar .byte z7)), (.int (0 : Int32)), (.int (0 : Int32)), (.int (0 : Int32)), (.int (0 : Int32)), (.int (0 : Int32)), (.int (0 : Int32)), (.int (0 : Int32))] (.int (0 : Int32)) "[B" := AA13
  have OL := OL.wr W12 g_b2
  refine g_aload cx d0_16 rfl rfl ?_
  refine g_iconst cx d0_18 (v := (1 : Int32)) rfl ?_
  refine g_lloadN cx d0_19 rfl ?_
  refine g_lloadN cx d0_20 rfl ?_
  refine g_iconst cx d0_21 (v := (1 : Int32)) rfl ?_
  refine g_static cx (y := (⟨"com/example/dyn_authz/dynauthz/service/RequestHeadEndPinLaw", "pick", "(JJI)B"⟩ : MethodName)) d0_22 (hw _ (List.mem_of_getElem? (i := 1) rfl)) (hw _ (List.mem_of_getElem? (i := 2) rfl)) (hw _ (List.mem_of_getElem? (i := 3) rfl)) (hw _ (List.mem_of_getElem? (i := 4) rfl)) (by decide) (bytes := method_2_code) (maxL' := 6) (M := (rmP l Z a0 hw _ _ _ _)) rfl (lenOf pd_1 rfl) (by decide) (W := 2) (Nat.le_of_eq rfl) (by decide) (k' := 1) (n' := 8) rfl rfl (by decide) (by decide) (argsL := [(.long sl), (.long rv), (.int (1 : Int32))]) (rest := [(.int (1 : Int32)), (.ref b2)]) rfl (fun v16 h15 q17 => ?_)
  obtain ⟨z14, rfl, rfl⟩ := q17
  refine G.cast (st' := [(.int z14), (.int (1 : Int32)), (.ref b2)]) ?_ rfl
  refine g_bastore cx d0_25 A_b2 ⟨by decide, by decide⟩ (Nat.le_of_ble_eq_true rfl) g_b2 (fun h18 W19 AA20 => ?_)
  have A_b2 : Arx Z h18 b2 cA3 .byte (8 : Int32) [(.int (nar .byte z7)), (.int (nar .byte z14)), (.int (0 : Int32)), (.int (0 : Int32)), (.int (0 : Int32)), (.int (0 : Int32)), (.int (0 : Int32)), (.int (0 : Int32))] (.int (0 : Int32)) "[B" := AA20
  have OL := OL.wr W19 g_b2
  refine g_aload cx d0_26 rfl rfl ?_
  refine g_iconst cx d0_28 (v := (2 : Int32)) rfl ?_
  refine g_lloadN cx d0_29 rfl ?_
  refine g_lloadN cx d0_30 rfl ?_
  refine g_iconst cx d0_31 (v := (2 : Int32)) rfl ?_
  refine g_static cx (y := (⟨"com/example/dyn_authz/dynauthz/service/RequestHeadEndPinLaw", "pick", "(JJI)B"⟩ : MethodName)) d0_32 (hw _ (List.mem_of_getElem? (i := 1) rfl)) (hw _ (List.mem_of_getElem? (i := 2) rfl)) (hw _ (List.mem_of_getElem? (i := 3) rfl)) (hw _ (List.mem_of_getElem? (i := 4) rfl)) (by decide) (bytes := method_2_code) (maxL' := 6) (M := (rmP l Z a0 hw _ _ _ _)) rfl (lenOf pd_1 rfl) (by decide) (W := 2) (Nat.le_of_eq rfl) (by decide) (k' := 1) (n' := 8) rfl rfl (by decide) (by decide) (argsL := [(.long sl), (.long rv), (.int (2 : Int32))]) (rest := [(.int (2 : Int32)), (.ref b2)]) rfl (fun v23 h22 q24 => ?_)
  obtain ⟨z21, rfl, rfl⟩ := q24
  refine G.cast (st' := [(.int z21), (.int (2 : Int32)), (.ref b2)]) ?_ rfl
  refine g_bastore cx d0_35 A_b2 ⟨by decide, by decide⟩ (Nat.le_of_ble_eq_true rfl) g_b2 (fun h25 W26 AA27 => ?_)
  have A_b2 : Arx Z h25 b2 cA3 .byte (8 : Int32) [(.int (nar .byte z7)), (.int (nar .byte z14)), (.int (nar .byte z21)), (.int (0 : Int32)), (.int (0 : Int32)), (.int (0 : Int32)), (.int (0 : Int32)), (.int (0 : Int32))] (.int (0 : Int32)) "[B" := AA27
  have OL := OL.wr W26 g_b2
  refine g_aload cx d0_36 rfl rfl ?_
  refine g_iconst cx d0_38 (v := (3 : Int32)) rfl ?_
  refine g_lloadN cx d0_39 rfl ?_
  refine g_lloadN cx d0_40 rfl ?_
  refine g_iconst cx d0_41 (v := (3 : Int32)) rfl ?_
  refine g_static cx (y := (⟨"com/example/dyn_authz/dynauthz/service/RequestHeadEndPinLaw", "pick", "(JJI)B"⟩ : MethodName)) d0_42 (hw _ (List.mem_of_getElem? (i := 1) rfl)) (hw _ (List.mem_of_getElem? (i := 2) rfl)) (hw _ (List.mem_of_getElem? (i := 3) rfl)) (hw _ (List.mem_of_getElem? (i := 4) rfl)) (by decide) (bytes := method_2_code) (maxL' := 6) (M := (rmP l Z a0 hw _ _ _ _)) rfl (lenOf pd_1 rfl) (by decide) (W := 2) (Nat.le_of_eq rfl) (by decide) (k' := 1) (n' := 8) rfl rfl (by decide) (by decide) (argsL := [(.long sl), (.long rv), (.int (3 : Int32))]) (rest := [(.int (3 : Int32)), (.ref b2)]) rfl (fun v30 h29 q31 => ?_)
  obtain ⟨z28, rfl, rfl⟩ := q31
  refine G.cast (st' := [(.int z28), (.int (3 : Int32)), (.ref b2)]) ?_ rfl
  refine g_bastore cx d0_45 A_b2 ⟨by decide, by decide⟩ (Nat.le_of_ble_eq_true rfl) g_b2 (fun h32 W33 AA34 => ?_)
  have A_b2 : Arx Z h32 b2 cA3 .byte (8 : Int32) [(.int (nar .byte z7)), (.int (nar .byte z14)), (.int (nar .byte z21)), (.int (nar .byte z28)), (.int (0 : Int32)), (.int (0 : Int32)), (.int (0 : Int32)), (.int (0 : Int32))] (.int (0 : Int32)) "[B" := AA34
  have OL := OL.wr W33 g_b2
  refine g_aload cx d0_46 rfl rfl ?_
  refine g_iconst cx d0_48 (v := (4 : Int32)) rfl ?_
  refine g_lloadN cx d0_49 rfl ?_
  refine g_lloadN cx d0_50 rfl ?_
  refine g_iconst cx d0_51 (v := (4 : Int32)) rfl ?_
  refine g_static cx (y := (⟨"com/example/dyn_authz/dynauthz/service/RequestHeadEndPinLaw", "pick", "(JJI)B"⟩ : MethodName)) d0_52 (hw _ (List.mem_of_getElem? (i := 1) rfl)) (hw _ (List.mem_of_getElem? (i := 2) rfl)) (hw _ (List.mem_of_getElem? (i := 3) rfl)) (hw _ (List.mem_of_getElem? (i := 4) rfl)) (by decide) (bytes := method_2_code) (maxL' := 6) (M := (rmP l Z a0 hw _ _ _ _)) rfl (lenOf pd_1 rfl) (by decide) (W := 2) (Nat.le_of_eq rfl) (by decide) (k' := 1) (n' := 8) rfl rfl (by decide) (by decide) (argsL := [(.long sl), (.long rv), (.int (4 : Int32))]) (rest := [(.int (4 : Int32)), (.ref b2)]) rfl (fun v37 h36 q38 => ?_)
  obtain ⟨z35, rfl, rfl⟩ := q38
  refine G.cast (st' := [(.int z35), (.int (4 : Int32)), (.ref b2)]) ?_ rfl
  refine g_bastore cx d0_55 A_b2 ⟨by decide, by decide⟩ (Nat.le_of_ble_eq_true rfl) g_b2 (fun h39 W40 AA41 => ?_)
  have A_b2 : Arx Z h39 b2 cA3 .byte (8 : Int32) [(.int (nar .byte z7)), (.int (nar .byte z14)), (.int (nar .byte z21)), (.int (nar .byte z28)), (.int (nar .byte z35)), (.int (0 : Int32)), (.int (0 : Int32)), (.int (0 : Int32))] (.int (0 : Int32)) "[B" := AA41
  have OL := OL.wr W40 g_b2
  refine g_aload cx d0_56 rfl rfl ?_
  refine g_iconst cx d0_58 (v := (5 : Int32)) rfl ?_
  refine g_lloadN cx d0_59 rfl ?_
  refine g_lloadN cx d0_60 rfl ?_
  refine g_iconst cx d0_61 (v := (5 : Int32)) rfl ?_
  refine g_static cx (y := (⟨"com/example/dyn_authz/dynauthz/service/RequestHeadEndPinLaw", "pick", "(JJI)B"⟩ : MethodName)) d0_62 (hw _ (List.mem_of_getElem? (i := 1) rfl)) (hw _ (List.mem_of_getElem? (i := 2) rfl)) (hw _ (List.mem_of_getElem? (i := 3) rfl)) (hw _ (List.mem_of_getElem? (i := 4) rfl)) (by decide) (bytes := method_2_code) (maxL' := 6) (M := (rmP l Z a0 hw _ _ _ _)) rfl (lenOf pd_1 rfl) (by decide) (W := 2) (Nat.le_of_eq rfl) (by decide) (k' := 1) (n' := 8) rfl rfl (by decide) (by decide) (argsL := [(.long sl), (.long rv), (.int (5 : Int32))]) (rest := [(.int (5 : Int32)), (.ref b2)]) rfl (fun v44 h43 q45 => ?_)
  obtain ⟨z42, rfl, rfl⟩ := q45
  refine G.cast (st' := [(.int z42), (.int (5 : Int32)), (.ref b2)]) ?_ rfl
  refine g_bastore cx d0_65 A_b2 ⟨by decide, by decide⟩ (Nat.le_of_ble_eq_true rfl) g_b2 (fun h46 W47 AA48 => ?_)
  have A_b2 : Arx Z h46 b2 cA3 .byte (8 : Int32) [(.int (nar .byte z7)), (.int (nar .byte z14)), (.int (nar .byte z21)), (.int (nar .byte z28)), (.int (nar .byte z35)), (.int (nar .byte z42)), (.int (0 : Int32)), (.int (0 : Int32))] (.int (0 : Int32)) "[B" := AA48
  have OL := OL.wr W47 g_b2
  refine g_aload cx d0_66 rfl rfl ?_
  refine g_bipush cx d0_68 (v := (6 : Int32)) rfl ?_
  refine g_lloadN cx d0_70 rfl ?_
  refine g_lloadN cx d0_71 rfl ?_
  refine g_bipush cx d0_72 (v := (6 : Int32)) rfl ?_
  refine g_static cx (y := (⟨"com/example/dyn_authz/dynauthz/service/RequestHeadEndPinLaw", "pick", "(JJI)B"⟩ : MethodName)) d0_74 (hw _ (List.mem_of_getElem? (i := 1) rfl)) (hw _ (List.mem_of_getElem? (i := 2) rfl)) (hw _ (List.mem_of_getElem? (i := 3) rfl)) (hw _ (List.mem_of_getElem? (i := 4) rfl)) (by decide) (bytes := method_2_code) (maxL' := 6) (M := (rmP l Z a0 hw _ _ _ _)) rfl (lenOf pd_1 rfl) (by decide) (W := 2) (Nat.le_of_eq rfl) (by decide) (k' := 1) (n' := 8) rfl rfl (by decide) (by decide) (argsL := [(.long sl), (.long rv), (.int (6 : Int32))]) (rest := [(.int (6 : Int32)), (.ref b2)]) rfl (fun v51 h50 q52 => ?_)
  obtain ⟨z49, rfl, rfl⟩ := q52
  refine G.cast (st' := [(.int z49), (.int (6 : Int32)), (.ref b2)]) ?_ rfl
  refine g_bastore cx d0_77 A_b2 ⟨by decide, by decide⟩ (Nat.le_of_ble_eq_true rfl) g_b2 (fun h53 W54 AA55 => ?_)
  have A_b2 : Arx Z h53 b2 cA3 .byte (8 : Int32) [(.int (nar .byte z7)), (.int (nar .byte z14)), (.int (nar .byte z21)), (.int (nar .byte z28)), (.int (nar .byte z35)), (.int (nar .byte z42)), (.int (nar .byte z49)), (.int (0 : Int32))] (.int (0 : Int32)) "[B" := AA55
  have OL := OL.wr W54 g_b2
  refine g_aload cx d0_78 rfl rfl ?_
  refine g_bipush cx d0_80 (v := (7 : Int32)) rfl ?_
  refine g_lloadN cx d0_82 rfl ?_
  refine g_lloadN cx d0_83 rfl ?_
  refine g_bipush cx d0_84 (v := (7 : Int32)) rfl ?_
  refine g_static cx (y := (⟨"com/example/dyn_authz/dynauthz/service/RequestHeadEndPinLaw", "pick", "(JJI)B"⟩ : MethodName)) d0_86 (hw _ (List.mem_of_getElem? (i := 1) rfl)) (hw _ (List.mem_of_getElem? (i := 2) rfl)) (hw _ (List.mem_of_getElem? (i := 3) rfl)) (hw _ (List.mem_of_getElem? (i := 4) rfl)) (by decide) (bytes := method_2_code) (maxL' := 6) (M := (rmP l Z a0 hw _ _ _ _)) rfl (lenOf pd_1 rfl) (by decide) (W := 2) (Nat.le_of_eq rfl) (by decide) (k' := 1) (n' := 8) rfl rfl (by decide) (by decide) (argsL := [(.long sl), (.long rv), (.int (7 : Int32))]) (rest := [(.int (7 : Int32)), (.ref b2)]) rfl (fun v58 h57 q59 => ?_)
  obtain ⟨z56, rfl, rfl⟩ := q59
  refine G.cast (st' := [(.int z56), (.int (7 : Int32)), (.ref b2)]) ?_ rfl
  refine g_bastore cx d0_89 A_b2 ⟨by decide, by decide⟩ (Nat.le_of_ble_eq_true rfl) g_b2 (fun h60 W61 AA62 => ?_)
  have A_b2 : Arx Z h60 b2 cA3 .byte (8 : Int32) [(.int (nar .byte z7)), (.int (nar .byte z14)), (.int (nar .byte z21)), (.int (nar .byte z28)), (.int (nar .byte z35)), (.int (nar .byte z42)), (.int (nar .byte z49)), (.int (nar .byte z56))] (.int (0 : Int32)) "[B" := AA62
  have OL := OL.wr W61 g_b2
  refine g_iload cx d0_90 rfl ?_
  refine g_ldcI cx d0_92 (hw _ (List.mem_of_getElem? (i := 6) rfl)) ?_
  refine g_iand cx d0_94 ?_
  refine g_bipush cx d0_95 (v := (9 : Int32)) rfl ?_
  refine g_irem cx d0_97 (by decide) ?_
  refine g_istore cx d0_98 (Ls' := #[.val (.long sl), .second, .val (.long rv), .second, .val (.int t), .val (.int f), .val (.int sc), .val (.ref b2), .val (.int ((t &&& (2147483647 : Int32)) % (9 : Int32))), .unset, .unset, .unset, .unset]) rfl ?_
  refine g_iload cx d0_100 rfl ?_
  refine g_ldcI cx d0_102 (hw _ (List.mem_of_getElem? (i := 6) rfl)) ?_
  refine g_iand cx d0_104 ?_
  refine g_iload cx d0_105 rfl ?_
  refine g_iconst cx d0_107 (v := (1 : Int32)) rfl ?_
  refine g_iadd cx d0_108 ?_
  refine g_irem cx d0_109 (own_t1 (own_to t).1 (own_to t).2).1 ?_
  refine g_istore cx d0_110 (Ls' := #[.val (.long sl), .second, .val (.long rv), .second, .val (.int t), .val (.int f), .val (.int sc), .val (.ref b2), .val (.int ((t &&& (2147483647 : Int32)) % (9 : Int32))), .val (.int ((f &&& (2147483647 : Int32)) % (((t &&& (2147483647 : Int32)) % (9 : Int32)) + (1 : Int32)))), .unset, .unset, .unset]) rfl ?_
  refine g_iload cx d0_112 rfl ?_
  refine g_ldcI cx d0_114 (hw _ (List.mem_of_getElem? (i := 6) rfl)) ?_
  refine g_iand cx d0_116 ?_
  refine g_iload cx d0_117 rfl ?_
  refine g_iconst cx d0_119 (v := (1 : Int32)) rfl ?_
  refine g_iadd cx d0_120 ?_
  refine g_irem cx d0_121 (own_t1 (own_to t).1 (own_to t).2).1 ?_
  refine g_istore cx d0_122 (Ls' := #[.val (.long sl), .second, .val (.long rv), .second, .val (.int t), .val (.int f), .val (.int sc), .val (.ref b2), .val (.int ((t &&& (2147483647 : Int32)) % (9 : Int32))), .val (.int ((f &&& (2147483647 : Int32)) % (((t &&& (2147483647 : Int32)) % (9 : Int32)) + (1 : Int32)))), .val (.int ((sc &&& (2147483647 : Int32)) % (((t &&& (2147483647 : Int32)) % (9 : Int32)) + (1 : Int32)))), .unset, .unset]) rfl ?_
  refine g_iload cx d0_124 rfl ?_
  refine g_iload cx d0_126 rfl ?_
  refine g_iconst cx d0_128 (v := (2 : Int32)) rfl ?_
  refine g_isub cx d0_129 ?_
  refine g_static cx (y := (⟨"java/lang/Math", "max", "(II)I"⟩ : MethodName)) d0_130 (hw _ (List.mem_of_getElem? (i := 7) rfl)) (hw _ (List.mem_of_getElem? (i := 8) rfl)) (hw _ (List.mem_of_getElem? (i := 9) rfl)) (hw _ (List.mem_of_getElem? (i := 10) rfl)) (by decide) (bytes := jdk_29_method_65_code) (maxL' := 2) (M := (rmM l Z a0 hw _ _ _)) rfl (lenOf pd_0 rfl) (by decide) (W := 0) (Nat.le_of_eq rfl) (by decide) (k' := 1) (n' := 8) rfl rfl (by decide) (by decide) (argsL := [(.int ((f &&& (2147483647 : Int32)) % (((t &&& (2147483647 : Int32)) % (9 : Int32)) + (1 : Int32)))), (.int (((sc &&& (2147483647 : Int32)) % (((t &&& (2147483647 : Int32)) % (9 : Int32)) + (1 : Int32))) - (2 : Int32)))]) (rest := []) rfl (fun v64 h63 q65 => ?_)
  obtain ⟨rfl, rfl⟩ := q65
  refine G.cast (st' := [(.int (own_mx ((f &&& (2147483647 : Int32)) % (((t &&& (2147483647 : Int32)) % (9 : Int32)) + (1 : Int32))) (((sc &&& (2147483647 : Int32)) % (((t &&& (2147483647 : Int32)) % (9 : Int32)) + (1 : Int32))) - (2 : Int32))))]) ?_ rfl
  refine g_istore cx d0_133 (Ls' := #[.val (.long sl), .second, .val (.long rv), .second, .val (.int t), .val (.int f), .val (.int sc), .val (.ref b2), .val (.int ((t &&& (2147483647 : Int32)) % (9 : Int32))), .val (.int ((f &&& (2147483647 : Int32)) % (((t &&& (2147483647 : Int32)) % (9 : Int32)) + (1 : Int32)))), .val (.int ((sc &&& (2147483647 : Int32)) % (((t &&& (2147483647 : Int32)) % (9 : Int32)) + (1 : Int32)))), .val (.int (own_mx ((f &&& (2147483647 : Int32)) % (((t &&& (2147483647 : Int32)) % (9 : Int32)) + (1 : Int32))) (((sc &&& (2147483647 : Int32)) % (((t &&& (2147483647 : Int32)) % (9 : Int32)) + (1 : Int32))) - (2 : Int32)))), .unset]) rfl ?_
  refine g_aload cx d0_135 rfl rfl ?_
  refine g_iconst cx d0_137 (v := (2 : Int32)) rfl ?_
  refine g_iload cx d0_138 rfl ?_
  refine g_iload cx d0_140 rfl ?_
  refine g_static cx (y := (⟨"com/example/dyn_authz/dynauthz/service/RequestHeadEndPinLaw", "endsAt", "([BIII)Z"⟩ : MethodName)) d0_142 (hw _ (List.mem_of_getElem? (i := 11) rfl)) (hw _ (List.mem_of_getElem? (i := 12) rfl)) (hw _ (List.mem_of_getElem? (i := 3) rfl)) (hw _ (List.mem_of_getElem? (i := 13) rfl)) (by decide) (bytes := method_3_code) (maxL' := 4) (M := (rmE2 l Z a0 hw _ _ _ (nar .byte z7) (nar .byte z14) (nar .byte z21) (nar .byte z28) (nar .byte z35) (nar .byte z42) (nar .byte z49) (nar .byte z56) _ _ A_b2)) rfl (lenOf pd_2 rfl) (by decide) (W := 0) (Nat.le_of_eq rfl) (by decide) (k' := 1) (n' := 8) rfl rfl (by decide) (by decide) (argsL := [(.ref b2), (.int (2 : Int32)), (.int (own_mx ((f &&& (2147483647 : Int32)) % (((t &&& (2147483647 : Int32)) % (9 : Int32)) + (1 : Int32))) (((sc &&& (2147483647 : Int32)) % (((t &&& (2147483647 : Int32)) % (9 : Int32)) + (1 : Int32))) - (2 : Int32)))), (.int ((t &&& (2147483647 : Int32)) % (9 : Int32)))]) (rest := []) rfl (fun v67 h66 q68 => ?_)
  obtain ⟨rfl, rfl⟩ := q68
  refine G.cast (st' := [(.int (own_ea [(nar .byte z7), (nar .byte z14), (nar .byte z21), (nar .byte z28), (nar .byte z35), (nar .byte z42), (nar .byte z49), (nar .byte z56)] (own_mx ((f &&& (2147483647 : Int32)) % (((t &&& (2147483647 : Int32)) % (9 : Int32)) + (1 : Int32))) (((sc &&& (2147483647 : Int32)) % (((t &&& (2147483647 : Int32)) % (9 : Int32)) + (1 : Int32))) - (2 : Int32))) ((t &&& (2147483647 : Int32)) % (9 : Int32)) (2 : Int32)))]) ?_ rfl
  refine g_if_eq cx d0_145 (fun hc145 => ?_) (fun hc145 => ?_)
  · refine g_aload cx d0_154 rfl rfl ?_
    refine g_iconst cx d0_156 (v := (3 : Int32)) rfl ?_
    refine g_iload cx d0_157 rfl ?_
    refine g_iload cx d0_159 rfl ?_
    refine g_static cx (y := (⟨"com/example/dyn_authz/dynauthz/service/RequestHeadEndPinLaw", "endsAt", "([BIII)Z"⟩ : MethodName)) d0_161 (hw _ (List.mem_of_getElem? (i := 11) rfl)) (hw _ (List.mem_of_getElem? (i := 12) rfl)) (hw _ (List.mem_of_getElem? (i := 3) rfl)) (hw _ (List.mem_of_getElem? (i := 13) rfl)) (by decide) (bytes := method_3_code) (maxL' := 4) (M := (rmE3 l Z a0 hw _ _ _ (nar .byte z7) (nar .byte z14) (nar .byte z21) (nar .byte z28) (nar .byte z35) (nar .byte z42) (nar .byte z49) (nar .byte z56) _ _ A_b2)) rfl (lenOf pd_2 rfl) (by decide) (W := 0) (Nat.le_of_eq rfl) (by decide) (k' := 1) (n' := 8) rfl rfl (by decide) (by decide) (argsL := [(.ref b2), (.int (3 : Int32)), (.int (own_mx ((f &&& (2147483647 : Int32)) % (((t &&& (2147483647 : Int32)) % (9 : Int32)) + (1 : Int32))) (((sc &&& (2147483647 : Int32)) % (((t &&& (2147483647 : Int32)) % (9 : Int32)) + (1 : Int32))) - (2 : Int32)))), (.int ((t &&& (2147483647 : Int32)) % (9 : Int32)))]) (rest := []) rfl (fun v70 h69 q71 => ?_)
    obtain ⟨rfl, rfl⟩ := q71
    refine G.cast (st' := [(.int (own_ea [(nar .byte z7), (nar .byte z14), (nar .byte z21), (nar .byte z28), (nar .byte z35), (nar .byte z42), (nar .byte z49), (nar .byte z56)] (own_mx ((f &&& (2147483647 : Int32)) % (((t &&& (2147483647 : Int32)) % (9 : Int32)) + (1 : Int32))) (((sc &&& (2147483647 : Int32)) % (((t &&& (2147483647 : Int32)) % (9 : Int32)) + (1 : Int32))) - (2 : Int32))) ((t &&& (2147483647 : Int32)) % (9 : Int32)) (3 : Int32)))]) ?_ rfl
    refine g_if_eq cx d0_164 (fun hc164 => ?_) (fun hc164 => ?_)
    · refine g_aload cx d0_173 rfl rfl ?_
      refine g_iconst cx d0_175 (v := (4 : Int32)) rfl ?_
      refine g_iload cx d0_176 rfl ?_
      refine g_iload cx d0_178 rfl ?_
      refine g_static cx (y := (⟨"com/example/dyn_authz/dynauthz/service/RequestHeadEndPinLaw", "endsAt", "([BIII)Z"⟩ : MethodName)) d0_180 (hw _ (List.mem_of_getElem? (i := 11) rfl)) (hw _ (List.mem_of_getElem? (i := 12) rfl)) (hw _ (List.mem_of_getElem? (i := 3) rfl)) (hw _ (List.mem_of_getElem? (i := 13) rfl)) (by decide) (bytes := method_3_code) (maxL' := 4) (M := (rmE4 l Z a0 hw _ _ _ (nar .byte z7) (nar .byte z14) (nar .byte z21) (nar .byte z28) (nar .byte z35) (nar .byte z42) (nar .byte z49) (nar .byte z56) _ _ A_b2)) rfl (lenOf pd_2 rfl) (by decide) (W := 0) (Nat.le_of_eq rfl) (by decide) (k' := 1) (n' := 8) rfl rfl (by decide) (by decide) (argsL := [(.ref b2), (.int (4 : Int32)), (.int (own_mx ((f &&& (2147483647 : Int32)) % (((t &&& (2147483647 : Int32)) % (9 : Int32)) + (1 : Int32))) (((sc &&& (2147483647 : Int32)) % (((t &&& (2147483647 : Int32)) % (9 : Int32)) + (1 : Int32))) - (2 : Int32)))), (.int ((t &&& (2147483647 : Int32)) % (9 : Int32)))]) (rest := []) rfl (fun v73 h72 q74 => ?_)
      obtain ⟨rfl, rfl⟩ := q74
      refine G.cast (st' := [(.int (own_ea [(nar .byte z7), (nar .byte z14), (nar .byte z21), (nar .byte z28), (nar .byte z35), (nar .byte z42), (nar .byte z49), (nar .byte z56)] (own_mx ((f &&& (2147483647 : Int32)) % (((t &&& (2147483647 : Int32)) % (9 : Int32)) + (1 : Int32))) (((sc &&& (2147483647 : Int32)) % (((t &&& (2147483647 : Int32)) % (9 : Int32)) + (1 : Int32))) - (2 : Int32))) ((t &&& (2147483647 : Int32)) % (9 : Int32)) (4 : Int32)))]) ?_ rfl
      refine g_if_eq cx d0_183 (fun hc183 => ?_) (fun hc183 => ?_)
      · refine g_aload cx d0_192 rfl rfl ?_
        refine g_iconst cx d0_194 (v := (5 : Int32)) rfl ?_
        refine g_iload cx d0_195 rfl ?_
        refine g_iload cx d0_197 rfl ?_
        refine g_static cx (y := (⟨"com/example/dyn_authz/dynauthz/service/RequestHeadEndPinLaw", "endsAt", "([BIII)Z"⟩ : MethodName)) d0_199 (hw _ (List.mem_of_getElem? (i := 11) rfl)) (hw _ (List.mem_of_getElem? (i := 12) rfl)) (hw _ (List.mem_of_getElem? (i := 3) rfl)) (hw _ (List.mem_of_getElem? (i := 13) rfl)) (by decide) (bytes := method_3_code) (maxL' := 4) (M := (rmE5 l Z a0 hw _ _ _ (nar .byte z7) (nar .byte z14) (nar .byte z21) (nar .byte z28) (nar .byte z35) (nar .byte z42) (nar .byte z49) (nar .byte z56) _ _ A_b2)) rfl (lenOf pd_2 rfl) (by decide) (W := 0) (Nat.le_of_eq rfl) (by decide) (k' := 1) (n' := 8) rfl rfl (by decide) (by decide) (argsL := [(.ref b2), (.int (5 : Int32)), (.int (own_mx ((f &&& (2147483647 : Int32)) % (((t &&& (2147483647 : Int32)) % (9 : Int32)) + (1 : Int32))) (((sc &&& (2147483647 : Int32)) % (((t &&& (2147483647 : Int32)) % (9 : Int32)) + (1 : Int32))) - (2 : Int32)))), (.int ((t &&& (2147483647 : Int32)) % (9 : Int32)))]) (rest := []) rfl (fun v76 h75 q77 => ?_)
        obtain ⟨rfl, rfl⟩ := q77
        refine G.cast (st' := [(.int (own_ea [(nar .byte z7), (nar .byte z14), (nar .byte z21), (nar .byte z28), (nar .byte z35), (nar .byte z42), (nar .byte z49), (nar .byte z56)] (own_mx ((f &&& (2147483647 : Int32)) % (((t &&& (2147483647 : Int32)) % (9 : Int32)) + (1 : Int32))) (((sc &&& (2147483647 : Int32)) % (((t &&& (2147483647 : Int32)) % (9 : Int32)) + (1 : Int32))) - (2 : Int32))) ((t &&& (2147483647 : Int32)) % (9 : Int32)) (5 : Int32)))]) ?_ rfl
        refine g_if_eq cx d0_202 (fun hc202 => ?_) (fun hc202 => ?_)
        · refine g_aload cx d0_211 rfl rfl ?_
          refine g_bipush cx d0_213 (v := (6 : Int32)) rfl ?_
          refine g_iload cx d0_215 rfl ?_
          refine g_iload cx d0_217 rfl ?_
          refine g_static cx (y := (⟨"com/example/dyn_authz/dynauthz/service/RequestHeadEndPinLaw", "endsAt", "([BIII)Z"⟩ : MethodName)) d0_219 (hw _ (List.mem_of_getElem? (i := 11) rfl)) (hw _ (List.mem_of_getElem? (i := 12) rfl)) (hw _ (List.mem_of_getElem? (i := 3) rfl)) (hw _ (List.mem_of_getElem? (i := 13) rfl)) (by decide) (bytes := method_3_code) (maxL' := 4) (M := (rmE6 l Z a0 hw _ _ _ (nar .byte z7) (nar .byte z14) (nar .byte z21) (nar .byte z28) (nar .byte z35) (nar .byte z42) (nar .byte z49) (nar .byte z56) _ _ A_b2)) rfl (lenOf pd_2 rfl) (by decide) (W := 0) (Nat.le_of_eq rfl) (by decide) (k' := 1) (n' := 8) rfl rfl (by decide) (by decide) (argsL := [(.ref b2), (.int (6 : Int32)), (.int (own_mx ((f &&& (2147483647 : Int32)) % (((t &&& (2147483647 : Int32)) % (9 : Int32)) + (1 : Int32))) (((sc &&& (2147483647 : Int32)) % (((t &&& (2147483647 : Int32)) % (9 : Int32)) + (1 : Int32))) - (2 : Int32)))), (.int ((t &&& (2147483647 : Int32)) % (9 : Int32)))]) (rest := []) rfl (fun v79 h78 q80 => ?_)
          obtain ⟨rfl, rfl⟩ := q80
          refine G.cast (st' := [(.int (own_ea [(nar .byte z7), (nar .byte z14), (nar .byte z21), (nar .byte z28), (nar .byte z35), (nar .byte z42), (nar .byte z49), (nar .byte z56)] (own_mx ((f &&& (2147483647 : Int32)) % (((t &&& (2147483647 : Int32)) % (9 : Int32)) + (1 : Int32))) (((sc &&& (2147483647 : Int32)) % (((t &&& (2147483647 : Int32)) % (9 : Int32)) + (1 : Int32))) - (2 : Int32))) ((t &&& (2147483647 : Int32)) % (9 : Int32)) (6 : Int32)))]) ?_ rfl
          refine g_if_eq cx d0_222 (fun hc222 => ?_) (fun hc222 => ?_)
          · refine g_aload cx d0_232 rfl rfl ?_
            refine g_bipush cx d0_234 (v := (7 : Int32)) rfl ?_
            refine g_iload cx d0_236 rfl ?_
            refine g_iload cx d0_238 rfl ?_
            refine g_static cx (y := (⟨"com/example/dyn_authz/dynauthz/service/RequestHeadEndPinLaw", "endsAt", "([BIII)Z"⟩ : MethodName)) d0_240 (hw _ (List.mem_of_getElem? (i := 11) rfl)) (hw _ (List.mem_of_getElem? (i := 12) rfl)) (hw _ (List.mem_of_getElem? (i := 3) rfl)) (hw _ (List.mem_of_getElem? (i := 13) rfl)) (by decide) (bytes := method_3_code) (maxL' := 4) (M := (rmE7 l Z a0 hw _ _ _ (nar .byte z7) (nar .byte z14) (nar .byte z21) (nar .byte z28) (nar .byte z35) (nar .byte z42) (nar .byte z49) (nar .byte z56) _ _ A_b2)) rfl (lenOf pd_2 rfl) (by decide) (W := 0) (Nat.le_of_eq rfl) (by decide) (k' := 1) (n' := 8) rfl rfl (by decide) (by decide) (argsL := [(.ref b2), (.int (7 : Int32)), (.int (own_mx ((f &&& (2147483647 : Int32)) % (((t &&& (2147483647 : Int32)) % (9 : Int32)) + (1 : Int32))) (((sc &&& (2147483647 : Int32)) % (((t &&& (2147483647 : Int32)) % (9 : Int32)) + (1 : Int32))) - (2 : Int32)))), (.int ((t &&& (2147483647 : Int32)) % (9 : Int32)))]) (rest := []) rfl (fun v82 h81 q83 => ?_)
            obtain ⟨rfl, rfl⟩ := q83
            refine G.cast (st' := [(.int (own_ea [(nar .byte z7), (nar .byte z14), (nar .byte z21), (nar .byte z28), (nar .byte z35), (nar .byte z42), (nar .byte z49), (nar .byte z56)] (own_mx ((f &&& (2147483647 : Int32)) % (((t &&& (2147483647 : Int32)) % (9 : Int32)) + (1 : Int32))) (((sc &&& (2147483647 : Int32)) % (((t &&& (2147483647 : Int32)) % (9 : Int32)) + (1 : Int32))) - (2 : Int32))) ((t &&& (2147483647 : Int32)) % (9 : Int32)) (7 : Int32)))]) ?_ rfl
            refine g_if_eq cx d0_243 (fun hc243 => ?_) (fun hc243 => ?_)
            · refine g_aload cx d0_253 rfl rfl ?_
              refine g_bipush cx d0_255 (v := (8 : Int32)) rfl ?_
              refine g_iload cx d0_257 rfl ?_
              refine g_iload cx d0_259 rfl ?_
              refine g_static cx (y := (⟨"com/example/dyn_authz/dynauthz/service/RequestHeadEndPinLaw", "endsAt", "([BIII)Z"⟩ : MethodName)) d0_261 (hw _ (List.mem_of_getElem? (i := 11) rfl)) (hw _ (List.mem_of_getElem? (i := 12) rfl)) (hw _ (List.mem_of_getElem? (i := 3) rfl)) (hw _ (List.mem_of_getElem? (i := 13) rfl)) (by decide) (bytes := method_3_code) (maxL' := 4) (M := (rmE8 l Z a0 hw _ _ _ (nar .byte z7) (nar .byte z14) (nar .byte z21) (nar .byte z28) (nar .byte z35) (nar .byte z42) (nar .byte z49) (nar .byte z56) _ _ A_b2)) rfl (lenOf pd_2 rfl) (by decide) (W := 0) (Nat.le_of_eq rfl) (by decide) (k' := 1) (n' := 8) rfl rfl (by decide) (by decide) (argsL := [(.ref b2), (.int (8 : Int32)), (.int (own_mx ((f &&& (2147483647 : Int32)) % (((t &&& (2147483647 : Int32)) % (9 : Int32)) + (1 : Int32))) (((sc &&& (2147483647 : Int32)) % (((t &&& (2147483647 : Int32)) % (9 : Int32)) + (1 : Int32))) - (2 : Int32)))), (.int ((t &&& (2147483647 : Int32)) % (9 : Int32)))]) (rest := []) rfl (fun v85 h84 q86 => ?_)
              obtain ⟨rfl, rfl⟩ := q86
              refine G.cast (st' := [(.int (own_ea [(nar .byte z7), (nar .byte z14), (nar .byte z21), (nar .byte z28), (nar .byte z35), (nar .byte z42), (nar .byte z49), (nar .byte z56)] (own_mx ((f &&& (2147483647 : Int32)) % (((t &&& (2147483647 : Int32)) % (9 : Int32)) + (1 : Int32))) (((sc &&& (2147483647 : Int32)) % (((t &&& (2147483647 : Int32)) % (9 : Int32)) + (1 : Int32))) - (2 : Int32))) ((t &&& (2147483647 : Int32)) % (9 : Int32)) (8 : Int32)))]) ?_ rfl
              refine g_if_eq cx d0_264 (fun hc264 => ?_) (fun hc264 => ?_)
              · refine g_iconst cx d0_274 (v := (-1 : Int32)) rfl ?_
                refine g_istore cx d0_275 (Ls' := #[.val (.long sl), .second, .val (.long rv), .second, .val (.int t), .val (.int f), .val (.int sc), .val (.ref b2), .val (.int ((t &&& (2147483647 : Int32)) % (9 : Int32))), .val (.int ((f &&& (2147483647 : Int32)) % (((t &&& (2147483647 : Int32)) % (9 : Int32)) + (1 : Int32)))), .val (.int ((sc &&& (2147483647 : Int32)) % (((t &&& (2147483647 : Int32)) % (9 : Int32)) + (1 : Int32)))), .val (.int (own_mx ((f &&& (2147483647 : Int32)) % (((t &&& (2147483647 : Int32)) % (9 : Int32)) + (1 : Int32))) (((sc &&& (2147483647 : Int32)) % (((t &&& (2147483647 : Int32)) % (9 : Int32)) + (1 : Int32))) - (2 : Int32)))), .val (.int (-1 : Int32))]) rfl ?_
                refine g_aload cx d0_277 rfl rfl ?_
                refine g_iload cx d0_279 rfl ?_
                refine g_iload cx d0_281 rfl ?_
                refine g_iload cx d0_283 rfl ?_
                refine g_static cx (y := (⟨"com/example/dyn_authz/dynauthz/service/RequestHead", "end", "([BIII)I"⟩ : MethodName)) d0_285 (hw _ (List.mem_of_getElem? (i := 14) rfl)) (hw _ (List.mem_of_getElem? (i := 15) rfl)) (hw _ (List.mem_of_getElem? (i := 16) rfl)) (hw _ (List.mem_of_getElem? (i := 17) rfl)) (by decide) (bytes := prog_48_method_2_code) (maxL' := 5) (M := (rmR l Z a0 hw _ _ _ _ (nar .byte z7) (nar .byte z14) (nar .byte z21) (nar .byte z28) (nar .byte z35) (nar .byte z42) (nar .byte z49) (nar .byte z56) _ _ A_b2 (own_fr f _ (own_to t).1 (own_to t).2) (own_to t).2)) rfl (lenOf pd_3 rfl) (by decide) (W := 0) (Nat.le_of_eq rfl) (by decide) (k' := 1) (n' := 8) rfl rfl (by decide) (by decide) (argsL := [(.ref b2), (.int ((f &&& (2147483647 : Int32)) % (((t &&& (2147483647 : Int32)) % (9 : Int32)) + (1 : Int32)))), (.int ((sc &&& (2147483647 : Int32)) % (((t &&& (2147483647 : Int32)) % (9 : Int32)) + (1 : Int32)))), (.int ((t &&& (2147483647 : Int32)) % (9 : Int32)))]) (rest := []) rfl (fun v89 h88 q90 => ?_)
                obtain ⟨r87, rfl, rfl, hR⟩ := q90
                refine G.cast (st' := [(.int r87)]) ?_ rfl
                refine g_iload cx d0_288 rfl ?_
                refine g_icmp_ne cx d0_290 (fun hc290 => ?_) (fun hc290 => ?_)
                · refine g_iconst cx d0_297 (v := (0 : Int32)) rfl ?_
                  refine g_retZ cx d0_298 rfl rfl (by decide) (by decide) ?_
                  exfalso
                  refine hc290 (own_finN (own_st f sc _ (own_to t).1 (own_to t).2) (own_to t).2 hR (fun e a hl => ?_))
                  rcases own_lits a hl with rfl | rfl | rfl | rfl | rfl | rfl | rfl
                  · exact own_ea0 hc145
                  · exact own_ea0 hc164
                  · exact own_ea0 hc183
                  · exact own_ea0 hc202
                  · exact own_ea0 hc222
                  · exact own_ea0 hc243
                  · exact own_ea0 hc264
                · refine g_iconst cx d0_293 (v := (1 : Int32)) rfl ?_
                  refine g_goto cx d0_294 ?_
                  refine g_retZ cx d0_298 rfl rfl (by decide) (by decide) ?_
                  rfl
              · refine g_bipush cx d0_267 (v := (8 : Int32)) rfl ?_
                refine g_istore cx d0_269 (Ls' := #[.val (.long sl), .second, .val (.long rv), .second, .val (.int t), .val (.int f), .val (.int sc), .val (.ref b2), .val (.int ((t &&& (2147483647 : Int32)) % (9 : Int32))), .val (.int ((f &&& (2147483647 : Int32)) % (((t &&& (2147483647 : Int32)) % (9 : Int32)) + (1 : Int32)))), .val (.int ((sc &&& (2147483647 : Int32)) % (((t &&& (2147483647 : Int32)) % (9 : Int32)) + (1 : Int32)))), .val (.int (own_mx ((f &&& (2147483647 : Int32)) % (((t &&& (2147483647 : Int32)) % (9 : Int32)) + (1 : Int32))) (((sc &&& (2147483647 : Int32)) % (((t &&& (2147483647 : Int32)) % (9 : Int32)) + (1 : Int32))) - (2 : Int32)))), .val (.int (8 : Int32))]) rfl ?_
                refine g_goto cx d0_271 ?_
                refine g_aload cx d0_277 rfl rfl ?_
                refine g_iload cx d0_279 rfl ?_
                refine g_iload cx d0_281 rfl ?_
                refine g_iload cx d0_283 rfl ?_
                refine g_static cx (y := (⟨"com/example/dyn_authz/dynauthz/service/RequestHead", "end", "([BIII)I"⟩ : MethodName)) d0_285 (hw _ (List.mem_of_getElem? (i := 14) rfl)) (hw _ (List.mem_of_getElem? (i := 15) rfl)) (hw _ (List.mem_of_getElem? (i := 16) rfl)) (hw _ (List.mem_of_getElem? (i := 17) rfl)) (by decide) (bytes := prog_48_method_2_code) (maxL' := 5) (M := (rmR l Z a0 hw _ _ _ _ (nar .byte z7) (nar .byte z14) (nar .byte z21) (nar .byte z28) (nar .byte z35) (nar .byte z42) (nar .byte z49) (nar .byte z56) _ _ A_b2 (own_fr f _ (own_to t).1 (own_to t).2) (own_to t).2)) rfl (lenOf pd_3 rfl) (by decide) (W := 0) (Nat.le_of_eq rfl) (by decide) (k' := 1) (n' := 8) rfl rfl (by decide) (by decide) (argsL := [(.ref b2), (.int ((f &&& (2147483647 : Int32)) % (((t &&& (2147483647 : Int32)) % (9 : Int32)) + (1 : Int32)))), (.int ((sc &&& (2147483647 : Int32)) % (((t &&& (2147483647 : Int32)) % (9 : Int32)) + (1 : Int32)))), (.int ((t &&& (2147483647 : Int32)) % (9 : Int32)))]) (rest := []) rfl (fun v93 h92 q94 => ?_)
                obtain ⟨r91, rfl, rfl, hR⟩ := q94
                refine G.cast (st' := [(.int r91)]) ?_ rfl
                refine g_iload cx d0_288 rfl ?_
                refine g_icmp_ne cx d0_290 (fun hc290 => ?_) (fun hc290 => ?_)
                · refine g_iconst cx d0_297 (v := (0 : Int32)) rfl ?_
                  refine g_retZ cx d0_298 rfl rfl (by decide) (by decide) ?_
                  exfalso
                  refine hc290 (own_fin (k := 8) (own_st f sc _ (own_to t).1 (own_to t).2) (own_to t).2 hR (by decide) (by decide) (fun e a hl => ?_) (own_ea1 hc264))
                  rcases own_lits a (own_lt8e hl (by decide)) with rfl | rfl | rfl | rfl | rfl | rfl | rfl
                  · exact own_ea0 hc145
                  · exact own_ea0 hc164
                  · exact own_ea0 hc183
                  · exact own_ea0 hc202
                  · exact own_ea0 hc222
                  · exact own_ea0 hc243
                  · exact absurd hl (by decide)
                · refine g_iconst cx d0_293 (v := (1 : Int32)) rfl ?_
                  refine g_goto cx d0_294 ?_
                  refine g_retZ cx d0_298 rfl rfl (by decide) (by decide) ?_
                  rfl
            · refine g_bipush cx d0_246 (v := (7 : Int32)) rfl ?_
              refine g_istore cx d0_248 (Ls' := #[.val (.long sl), .second, .val (.long rv), .second, .val (.int t), .val (.int f), .val (.int sc), .val (.ref b2), .val (.int ((t &&& (2147483647 : Int32)) % (9 : Int32))), .val (.int ((f &&& (2147483647 : Int32)) % (((t &&& (2147483647 : Int32)) % (9 : Int32)) + (1 : Int32)))), .val (.int ((sc &&& (2147483647 : Int32)) % (((t &&& (2147483647 : Int32)) % (9 : Int32)) + (1 : Int32)))), .val (.int (own_mx ((f &&& (2147483647 : Int32)) % (((t &&& (2147483647 : Int32)) % (9 : Int32)) + (1 : Int32))) (((sc &&& (2147483647 : Int32)) % (((t &&& (2147483647 : Int32)) % (9 : Int32)) + (1 : Int32))) - (2 : Int32)))), .val (.int (7 : Int32))]) rfl ?_
              refine g_goto cx d0_250 ?_
              refine g_aload cx d0_277 rfl rfl ?_
              refine g_iload cx d0_279 rfl ?_
              refine g_iload cx d0_281 rfl ?_
              refine g_iload cx d0_283 rfl ?_
              refine g_static cx (y := (⟨"com/example/dyn_authz/dynauthz/service/RequestHead", "end", "([BIII)I"⟩ : MethodName)) d0_285 (hw _ (List.mem_of_getElem? (i := 14) rfl)) (hw _ (List.mem_of_getElem? (i := 15) rfl)) (hw _ (List.mem_of_getElem? (i := 16) rfl)) (hw _ (List.mem_of_getElem? (i := 17) rfl)) (by decide) (bytes := prog_48_method_2_code) (maxL' := 5) (M := (rmR l Z a0 hw _ _ _ _ (nar .byte z7) (nar .byte z14) (nar .byte z21) (nar .byte z28) (nar .byte z35) (nar .byte z42) (nar .byte z49) (nar .byte z56) _ _ A_b2 (own_fr f _ (own_to t).1 (own_to t).2) (own_to t).2)) rfl (lenOf pd_3 rfl) (by decide) (W := 0) (Nat.le_of_eq rfl) (by decide) (k' := 1) (n' := 8) rfl rfl (by decide) (by decide) (argsL := [(.ref b2), (.int ((f &&& (2147483647 : Int32)) % (((t &&& (2147483647 : Int32)) % (9 : Int32)) + (1 : Int32)))), (.int ((sc &&& (2147483647 : Int32)) % (((t &&& (2147483647 : Int32)) % (9 : Int32)) + (1 : Int32)))), (.int ((t &&& (2147483647 : Int32)) % (9 : Int32)))]) (rest := []) rfl (fun v97 h96 q98 => ?_)
              obtain ⟨r95, rfl, rfl, hR⟩ := q98
              refine G.cast (st' := [(.int r95)]) ?_ rfl
              refine g_iload cx d0_288 rfl ?_
              refine g_icmp_ne cx d0_290 (fun hc290 => ?_) (fun hc290 => ?_)
              · refine g_iconst cx d0_297 (v := (0 : Int32)) rfl ?_
                refine g_retZ cx d0_298 rfl rfl (by decide) (by decide) ?_
                exfalso
                refine hc290 (own_fin (k := 7) (own_st f sc _ (own_to t).1 (own_to t).2) (own_to t).2 hR (by decide) (by decide) (fun e a hl => ?_) (own_ea1 hc243))
                rcases own_lits a (own_lt8e hl (by decide)) with rfl | rfl | rfl | rfl | rfl | rfl | rfl
                · exact own_ea0 hc145
                · exact own_ea0 hc164
                · exact own_ea0 hc183
                · exact own_ea0 hc202
                · exact own_ea0 hc222
                · exact absurd hl (by decide)
                · exact absurd hl (by decide)
              · refine g_iconst cx d0_293 (v := (1 : Int32)) rfl ?_
                refine g_goto cx d0_294 ?_
                refine g_retZ cx d0_298 rfl rfl (by decide) (by decide) ?_
                rfl
          · refine g_bipush cx d0_225 (v := (6 : Int32)) rfl ?_
            refine g_istore cx d0_227 (Ls' := #[.val (.long sl), .second, .val (.long rv), .second, .val (.int t), .val (.int f), .val (.int sc), .val (.ref b2), .val (.int ((t &&& (2147483647 : Int32)) % (9 : Int32))), .val (.int ((f &&& (2147483647 : Int32)) % (((t &&& (2147483647 : Int32)) % (9 : Int32)) + (1 : Int32)))), .val (.int ((sc &&& (2147483647 : Int32)) % (((t &&& (2147483647 : Int32)) % (9 : Int32)) + (1 : Int32)))), .val (.int (own_mx ((f &&& (2147483647 : Int32)) % (((t &&& (2147483647 : Int32)) % (9 : Int32)) + (1 : Int32))) (((sc &&& (2147483647 : Int32)) % (((t &&& (2147483647 : Int32)) % (9 : Int32)) + (1 : Int32))) - (2 : Int32)))), .val (.int (6 : Int32))]) rfl ?_
            refine g_goto cx d0_229 ?_
            refine g_aload cx d0_277 rfl rfl ?_
            refine g_iload cx d0_279 rfl ?_
            refine g_iload cx d0_281 rfl ?_
            refine g_iload cx d0_283 rfl ?_
            refine g_static cx (y := (⟨"com/example/dyn_authz/dynauthz/service/RequestHead", "end", "([BIII)I"⟩ : MethodName)) d0_285 (hw _ (List.mem_of_getElem? (i := 14) rfl)) (hw _ (List.mem_of_getElem? (i := 15) rfl)) (hw _ (List.mem_of_getElem? (i := 16) rfl)) (hw _ (List.mem_of_getElem? (i := 17) rfl)) (by decide) (bytes := prog_48_method_2_code) (maxL' := 5) (M := (rmR l Z a0 hw _ _ _ _ (nar .byte z7) (nar .byte z14) (nar .byte z21) (nar .byte z28) (nar .byte z35) (nar .byte z42) (nar .byte z49) (nar .byte z56) _ _ A_b2 (own_fr f _ (own_to t).1 (own_to t).2) (own_to t).2)) rfl (lenOf pd_3 rfl) (by decide) (W := 0) (Nat.le_of_eq rfl) (by decide) (k' := 1) (n' := 8) rfl rfl (by decide) (by decide) (argsL := [(.ref b2), (.int ((f &&& (2147483647 : Int32)) % (((t &&& (2147483647 : Int32)) % (9 : Int32)) + (1 : Int32)))), (.int ((sc &&& (2147483647 : Int32)) % (((t &&& (2147483647 : Int32)) % (9 : Int32)) + (1 : Int32)))), (.int ((t &&& (2147483647 : Int32)) % (9 : Int32)))]) (rest := []) rfl (fun v101 h100 q102 => ?_)
            obtain ⟨r99, rfl, rfl, hR⟩ := q102
            refine G.cast (st' := [(.int r99)]) ?_ rfl
            refine g_iload cx d0_288 rfl ?_
            refine g_icmp_ne cx d0_290 (fun hc290 => ?_) (fun hc290 => ?_)
            · refine g_iconst cx d0_297 (v := (0 : Int32)) rfl ?_
              refine g_retZ cx d0_298 rfl rfl (by decide) (by decide) ?_
              exfalso
              refine hc290 (own_fin (k := 6) (own_st f sc _ (own_to t).1 (own_to t).2) (own_to t).2 hR (by decide) (by decide) (fun e a hl => ?_) (own_ea1 hc222))
              rcases own_lits a (own_lt8e hl (by decide)) with rfl | rfl | rfl | rfl | rfl | rfl | rfl
              · exact own_ea0 hc145
              · exact own_ea0 hc164
              · exact own_ea0 hc183
              · exact own_ea0 hc202
              · exact absurd hl (by decide)
              · exact absurd hl (by decide)
              · exact absurd hl (by decide)
            · refine g_iconst cx d0_293 (v := (1 : Int32)) rfl ?_
              refine g_goto cx d0_294 ?_
              refine g_retZ cx d0_298 rfl rfl (by decide) (by decide) ?_
              rfl
        · refine g_iconst cx d0_205 (v := (5 : Int32)) rfl ?_
          refine g_istore cx d0_206 (Ls' := #[.val (.long sl), .second, .val (.long rv), .second, .val (.int t), .val (.int f), .val (.int sc), .val (.ref b2), .val (.int ((t &&& (2147483647 : Int32)) % (9 : Int32))), .val (.int ((f &&& (2147483647 : Int32)) % (((t &&& (2147483647 : Int32)) % (9 : Int32)) + (1 : Int32)))), .val (.int ((sc &&& (2147483647 : Int32)) % (((t &&& (2147483647 : Int32)) % (9 : Int32)) + (1 : Int32)))), .val (.int (own_mx ((f &&& (2147483647 : Int32)) % (((t &&& (2147483647 : Int32)) % (9 : Int32)) + (1 : Int32))) (((sc &&& (2147483647 : Int32)) % (((t &&& (2147483647 : Int32)) % (9 : Int32)) + (1 : Int32))) - (2 : Int32)))), .val (.int (5 : Int32))]) rfl ?_
          refine g_goto cx d0_208 ?_
          refine g_aload cx d0_277 rfl rfl ?_
          refine g_iload cx d0_279 rfl ?_
          refine g_iload cx d0_281 rfl ?_
          refine g_iload cx d0_283 rfl ?_
          refine g_static cx (y := (⟨"com/example/dyn_authz/dynauthz/service/RequestHead", "end", "([BIII)I"⟩ : MethodName)) d0_285 (hw _ (List.mem_of_getElem? (i := 14) rfl)) (hw _ (List.mem_of_getElem? (i := 15) rfl)) (hw _ (List.mem_of_getElem? (i := 16) rfl)) (hw _ (List.mem_of_getElem? (i := 17) rfl)) (by decide) (bytes := prog_48_method_2_code) (maxL' := 5) (M := (rmR l Z a0 hw _ _ _ _ (nar .byte z7) (nar .byte z14) (nar .byte z21) (nar .byte z28) (nar .byte z35) (nar .byte z42) (nar .byte z49) (nar .byte z56) _ _ A_b2 (own_fr f _ (own_to t).1 (own_to t).2) (own_to t).2)) rfl (lenOf pd_3 rfl) (by decide) (W := 0) (Nat.le_of_eq rfl) (by decide) (k' := 1) (n' := 8) rfl rfl (by decide) (by decide) (argsL := [(.ref b2), (.int ((f &&& (2147483647 : Int32)) % (((t &&& (2147483647 : Int32)) % (9 : Int32)) + (1 : Int32)))), (.int ((sc &&& (2147483647 : Int32)) % (((t &&& (2147483647 : Int32)) % (9 : Int32)) + (1 : Int32)))), (.int ((t &&& (2147483647 : Int32)) % (9 : Int32)))]) (rest := []) rfl (fun v105 h104 q106 => ?_)
          obtain ⟨r103, rfl, rfl, hR⟩ := q106
          refine G.cast (st' := [(.int r103)]) ?_ rfl
          refine g_iload cx d0_288 rfl ?_
          refine g_icmp_ne cx d0_290 (fun hc290 => ?_) (fun hc290 => ?_)
          · refine g_iconst cx d0_297 (v := (0 : Int32)) rfl ?_
            refine g_retZ cx d0_298 rfl rfl (by decide) (by decide) ?_
            exfalso
            refine hc290 (own_fin (k := 5) (own_st f sc _ (own_to t).1 (own_to t).2) (own_to t).2 hR (by decide) (by decide) (fun e a hl => ?_) (own_ea1 hc202))
            rcases own_lits a (own_lt8e hl (by decide)) with rfl | rfl | rfl | rfl | rfl | rfl | rfl
            · exact own_ea0 hc145
            · exact own_ea0 hc164
            · exact own_ea0 hc183
            · exact absurd hl (by decide)
            · exact absurd hl (by decide)
            · exact absurd hl (by decide)
            · exact absurd hl (by decide)
          · refine g_iconst cx d0_293 (v := (1 : Int32)) rfl ?_
            refine g_goto cx d0_294 ?_
            refine g_retZ cx d0_298 rfl rfl (by decide) (by decide) ?_
            rfl
      · refine g_iconst cx d0_186 (v := (4 : Int32)) rfl ?_
        refine g_istore cx d0_187 (Ls' := #[.val (.long sl), .second, .val (.long rv), .second, .val (.int t), .val (.int f), .val (.int sc), .val (.ref b2), .val (.int ((t &&& (2147483647 : Int32)) % (9 : Int32))), .val (.int ((f &&& (2147483647 : Int32)) % (((t &&& (2147483647 : Int32)) % (9 : Int32)) + (1 : Int32)))), .val (.int ((sc &&& (2147483647 : Int32)) % (((t &&& (2147483647 : Int32)) % (9 : Int32)) + (1 : Int32)))), .val (.int (own_mx ((f &&& (2147483647 : Int32)) % (((t &&& (2147483647 : Int32)) % (9 : Int32)) + (1 : Int32))) (((sc &&& (2147483647 : Int32)) % (((t &&& (2147483647 : Int32)) % (9 : Int32)) + (1 : Int32))) - (2 : Int32)))), .val (.int (4 : Int32))]) rfl ?_
        refine g_goto cx d0_189 ?_
        refine g_aload cx d0_277 rfl rfl ?_
        refine g_iload cx d0_279 rfl ?_
        refine g_iload cx d0_281 rfl ?_
        refine g_iload cx d0_283 rfl ?_
        refine g_static cx (y := (⟨"com/example/dyn_authz/dynauthz/service/RequestHead", "end", "([BIII)I"⟩ : MethodName)) d0_285 (hw _ (List.mem_of_getElem? (i := 14) rfl)) (hw _ (List.mem_of_getElem? (i := 15) rfl)) (hw _ (List.mem_of_getElem? (i := 16) rfl)) (hw _ (List.mem_of_getElem? (i := 17) rfl)) (by decide) (bytes := prog_48_method_2_code) (maxL' := 5) (M := (rmR l Z a0 hw _ _ _ _ (nar .byte z7) (nar .byte z14) (nar .byte z21) (nar .byte z28) (nar .byte z35) (nar .byte z42) (nar .byte z49) (nar .byte z56) _ _ A_b2 (own_fr f _ (own_to t).1 (own_to t).2) (own_to t).2)) rfl (lenOf pd_3 rfl) (by decide) (W := 0) (Nat.le_of_eq rfl) (by decide) (k' := 1) (n' := 8) rfl rfl (by decide) (by decide) (argsL := [(.ref b2), (.int ((f &&& (2147483647 : Int32)) % (((t &&& (2147483647 : Int32)) % (9 : Int32)) + (1 : Int32)))), (.int ((sc &&& (2147483647 : Int32)) % (((t &&& (2147483647 : Int32)) % (9 : Int32)) + (1 : Int32)))), (.int ((t &&& (2147483647 : Int32)) % (9 : Int32)))]) (rest := []) rfl (fun v109 h108 q110 => ?_)
        obtain ⟨r107, rfl, rfl, hR⟩ := q110
        refine G.cast (st' := [(.int r107)]) ?_ rfl
        refine g_iload cx d0_288 rfl ?_
        refine g_icmp_ne cx d0_290 (fun hc290 => ?_) (fun hc290 => ?_)
        · refine g_iconst cx d0_297 (v := (0 : Int32)) rfl ?_
          refine g_retZ cx d0_298 rfl rfl (by decide) (by decide) ?_
          exfalso
          refine hc290 (own_fin (k := 4) (own_st f sc _ (own_to t).1 (own_to t).2) (own_to t).2 hR (by decide) (by decide) (fun e a hl => ?_) (own_ea1 hc183))
          rcases own_lits a (own_lt8e hl (by decide)) with rfl | rfl | rfl | rfl | rfl | rfl | rfl
          · exact own_ea0 hc145
          · exact own_ea0 hc164
          · exact absurd hl (by decide)
          · exact absurd hl (by decide)
          · exact absurd hl (by decide)
          · exact absurd hl (by decide)
          · exact absurd hl (by decide)
        · refine g_iconst cx d0_293 (v := (1 : Int32)) rfl ?_
          refine g_goto cx d0_294 ?_
          refine g_retZ cx d0_298 rfl rfl (by decide) (by decide) ?_
          rfl
    · refine g_iconst cx d0_167 (v := (3 : Int32)) rfl ?_
      refine g_istore cx d0_168 (Ls' := #[.val (.long sl), .second, .val (.long rv), .second, .val (.int t), .val (.int f), .val (.int sc), .val (.ref b2), .val (.int ((t &&& (2147483647 : Int32)) % (9 : Int32))), .val (.int ((f &&& (2147483647 : Int32)) % (((t &&& (2147483647 : Int32)) % (9 : Int32)) + (1 : Int32)))), .val (.int ((sc &&& (2147483647 : Int32)) % (((t &&& (2147483647 : Int32)) % (9 : Int32)) + (1 : Int32)))), .val (.int (own_mx ((f &&& (2147483647 : Int32)) % (((t &&& (2147483647 : Int32)) % (9 : Int32)) + (1 : Int32))) (((sc &&& (2147483647 : Int32)) % (((t &&& (2147483647 : Int32)) % (9 : Int32)) + (1 : Int32))) - (2 : Int32)))), .val (.int (3 : Int32))]) rfl ?_
      refine g_goto cx d0_170 ?_
      refine g_aload cx d0_277 rfl rfl ?_
      refine g_iload cx d0_279 rfl ?_
      refine g_iload cx d0_281 rfl ?_
      refine g_iload cx d0_283 rfl ?_
      refine g_static cx (y := (⟨"com/example/dyn_authz/dynauthz/service/RequestHead", "end", "([BIII)I"⟩ : MethodName)) d0_285 (hw _ (List.mem_of_getElem? (i := 14) rfl)) (hw _ (List.mem_of_getElem? (i := 15) rfl)) (hw _ (List.mem_of_getElem? (i := 16) rfl)) (hw _ (List.mem_of_getElem? (i := 17) rfl)) (by decide) (bytes := prog_48_method_2_code) (maxL' := 5) (M := (rmR l Z a0 hw _ _ _ _ (nar .byte z7) (nar .byte z14) (nar .byte z21) (nar .byte z28) (nar .byte z35) (nar .byte z42) (nar .byte z49) (nar .byte z56) _ _ A_b2 (own_fr f _ (own_to t).1 (own_to t).2) (own_to t).2)) rfl (lenOf pd_3 rfl) (by decide) (W := 0) (Nat.le_of_eq rfl) (by decide) (k' := 1) (n' := 8) rfl rfl (by decide) (by decide) (argsL := [(.ref b2), (.int ((f &&& (2147483647 : Int32)) % (((t &&& (2147483647 : Int32)) % (9 : Int32)) + (1 : Int32)))), (.int ((sc &&& (2147483647 : Int32)) % (((t &&& (2147483647 : Int32)) % (9 : Int32)) + (1 : Int32)))), (.int ((t &&& (2147483647 : Int32)) % (9 : Int32)))]) (rest := []) rfl (fun v113 h112 q114 => ?_)
      obtain ⟨r111, rfl, rfl, hR⟩ := q114
      refine G.cast (st' := [(.int r111)]) ?_ rfl
      refine g_iload cx d0_288 rfl ?_
      refine g_icmp_ne cx d0_290 (fun hc290 => ?_) (fun hc290 => ?_)
      · refine g_iconst cx d0_297 (v := (0 : Int32)) rfl ?_
        refine g_retZ cx d0_298 rfl rfl (by decide) (by decide) ?_
        exfalso
        refine hc290 (own_fin (k := 3) (own_st f sc _ (own_to t).1 (own_to t).2) (own_to t).2 hR (by decide) (by decide) (fun e a hl => ?_) (own_ea1 hc164))
        rcases own_lits a (own_lt8e hl (by decide)) with rfl | rfl | rfl | rfl | rfl | rfl | rfl
        · exact own_ea0 hc145
        · exact absurd hl (by decide)
        · exact absurd hl (by decide)
        · exact absurd hl (by decide)
        · exact absurd hl (by decide)
        · exact absurd hl (by decide)
        · exact absurd hl (by decide)
      · refine g_iconst cx d0_293 (v := (1 : Int32)) rfl ?_
        refine g_goto cx d0_294 ?_
        refine g_retZ cx d0_298 rfl rfl (by decide) (by decide) ?_
        rfl
  · refine g_iconst cx d0_148 (v := (2 : Int32)) rfl ?_
    refine g_istore cx d0_149 (Ls' := #[.val (.long sl), .second, .val (.long rv), .second, .val (.int t), .val (.int f), .val (.int sc), .val (.ref b2), .val (.int ((t &&& (2147483647 : Int32)) % (9 : Int32))), .val (.int ((f &&& (2147483647 : Int32)) % (((t &&& (2147483647 : Int32)) % (9 : Int32)) + (1 : Int32)))), .val (.int ((sc &&& (2147483647 : Int32)) % (((t &&& (2147483647 : Int32)) % (9 : Int32)) + (1 : Int32)))), .val (.int (own_mx ((f &&& (2147483647 : Int32)) % (((t &&& (2147483647 : Int32)) % (9 : Int32)) + (1 : Int32))) (((sc &&& (2147483647 : Int32)) % (((t &&& (2147483647 : Int32)) % (9 : Int32)) + (1 : Int32))) - (2 : Int32)))), .val (.int (2 : Int32))]) rfl ?_
    refine g_goto cx d0_151 ?_
    refine g_aload cx d0_277 rfl rfl ?_
    refine g_iload cx d0_279 rfl ?_
    refine g_iload cx d0_281 rfl ?_
    refine g_iload cx d0_283 rfl ?_
    refine g_static cx (y := (⟨"com/example/dyn_authz/dynauthz/service/RequestHead", "end", "([BIII)I"⟩ : MethodName)) d0_285 (hw _ (List.mem_of_getElem? (i := 14) rfl)) (hw _ (List.mem_of_getElem? (i := 15) rfl)) (hw _ (List.mem_of_getElem? (i := 16) rfl)) (hw _ (List.mem_of_getElem? (i := 17) rfl)) (by decide) (bytes := prog_48_method_2_code) (maxL' := 5) (M := (rmR l Z a0 hw _ _ _ _ (nar .byte z7) (nar .byte z14) (nar .byte z21) (nar .byte z28) (nar .byte z35) (nar .byte z42) (nar .byte z49) (nar .byte z56) _ _ A_b2 (own_fr f _ (own_to t).1 (own_to t).2) (own_to t).2)) rfl (lenOf pd_3 rfl) (by decide) (W := 0) (Nat.le_of_eq rfl) (by decide) (k' := 1) (n' := 8) rfl rfl (by decide) (by decide) (argsL := [(.ref b2), (.int ((f &&& (2147483647 : Int32)) % (((t &&& (2147483647 : Int32)) % (9 : Int32)) + (1 : Int32)))), (.int ((sc &&& (2147483647 : Int32)) % (((t &&& (2147483647 : Int32)) % (9 : Int32)) + (1 : Int32)))), (.int ((t &&& (2147483647 : Int32)) % (9 : Int32)))]) (rest := []) rfl (fun v117 h116 q118 => ?_)
    obtain ⟨r115, rfl, rfl, hR⟩ := q118
    refine G.cast (st' := [(.int r115)]) ?_ rfl
    refine g_iload cx d0_288 rfl ?_
    refine g_icmp_ne cx d0_290 (fun hc290 => ?_) (fun hc290 => ?_)
    · refine g_iconst cx d0_297 (v := (0 : Int32)) rfl ?_
      refine g_retZ cx d0_298 rfl rfl (by decide) (by decide) ?_
      exfalso
      refine hc290 (own_fin (k := 2) (own_st f sc _ (own_to t).1 (own_to t).2) (own_to t).2 hR (by decide) (by decide) (fun e a hl => ?_) (own_ea1 hc145))
      rcases own_lits a (own_lt8e hl (by decide)) with rfl | rfl | rfl | rfl | rfl | rfl | rfl
      · exact absurd hl (by decide)
      · exact absurd hl (by decide)
      · exact absurd hl (by decide)
      · exact absurd hl (by decide)
      · exact absurd hl (by decide)
      · exact absurd hl (by decide)
      · exact absurd hl (by decide)
    · refine g_iconst cx d0_293 (v := (1 : Int32)) rfl ?_
      refine g_goto cx d0_294 ?_
      refine g_retZ cx d0_298 rfl rfl (by decide) (by decide) ?_
      rfl
set_option maxRecDepth 65536 in
set_option maxHeartbeats 40000000 in
theorem comes_1 {Post : Tables → Env → Array Value → State → Outcome → State → Prop} (hpost : ∀ tb e args s v u, (limb_1_1.after args s (.returned v) u = true ∧ limb_1_2.after args s (.returned v) u = true ∧ True) → FrameEnd s (.returned v) u (Jvm.fieldLocs frame_1_writes args s ++ Jvm.arrayLocs frame_1_arrays args s ++ Jvm.staticLocs frame_1_statics s) 16 128 → Post tb e args s (.returned v) u) :
    ArmFor flags0 classFile x code maxLocals ret World_1 tables_1 room_1 Calls_1 rest_1 Pre_1 Post := by
  intro l hfl _ _ p e ha hc hk s m args below hf hA hF happ hP
  obtain ⟨hcalls, hrest, hpre⟩ := hP
  obtain ⟨-, -, -, hnamed, -, -, -, hat⟩ := (Spec.applies_iff hf).mp happ
  obtain ⟨hg, hn⟩ := and_e (Cond.before_iff.mp (show (Jvm.Cond.and given_1 narrow_1).before args s = true from hpre))
  obtain ⟨g1, g2⟩ := and_e hg
  obtain ⟨g3, g4⟩ := and_e g2
  obtain ⟨g5, g6⟩ := and_e g4
  obtain ⟨g7, g8⟩ := and_e g6
  obtain ⟨g9, g10⟩ := and_e g8
  obtain ⟨w0, w1, w2, w3, w4, rfl⟩ : ∃ w0 w1 w2 w3 w4 : Value, args = #[w0, w1, w2, w3, w4] := by
    have hs : args.size = 5 := by simpa [Cond.value, given_1] using g1
    obtain ⟨L⟩ := args
    match L, hs with
    | [w0, w1, w2, w3, w4], _ => exact ⟨w0, w1, w2, w3, w4, rfl⟩
  have hw := fun d (hd : d ∈ tables_1) => atoms_spec (ws := Jvm.Cond.code x code maxLocals ret :: tables_1) hat d (List.mem_cons_of_mem _ hd)
  have hfit : Fit s := fun {y c} hc i hi => by
    obtain ⟨ha, rfl⟩ := Array.getElem?_eq_some_iff.mp hc
    have q := List.all_eq_true.mp ((Array.all_eq_true_iff_forall_mem.mp hF) _ (Array.getElem_mem ha)) i (List.mem_range.mpr hi)
    simpa [Array.getElem?_eq_getElem hi] using q
  obtain ⟨i0, ei0⟩ := isL_v g3
  obtain rfl : w0 = (.long i0) := Option.some.inj ei0
  obtain ⟨i1, ei1⟩ := isL_v g5
  obtain rfl : w1 = (.long i1) := Option.some.inj ei1
  obtain ⟨i2, ei2⟩ := is_v g7
  obtain rfl : w2 = (.int i2) := Option.some.inj ei2
  obtain ⟨i3, ei3⟩ := is_v g9
  obtain rfl : w3 = (.int i3) := Option.some.inj ei3
  obtain ⟨i4, ei4⟩ := is_v g10
  obtain rfl : w4 = (.int i4) := Option.some.inj ei4
  obtain ⟨n, o, h1, h2, h3, _, L, rfl, ⟨rfl, N⟩, hq⟩ := rm0 l s _ hw i0 i1 i2 i3 i4 s.heap (Old.start s) tables_1 p e ha hc hk s m _ below hf ((Spec.applies_iff_loose hf).mp happ).1 ⟨rfl, State.Warmed39.refl s, rfl⟩ trivial
  refine ⟨n, _, h1, h2, h3, hpost _ _ _ _ _ _ ⟨Cond.after_iff.mpr rfl, Cond.after_iff.mpr (eq_i res_at (Term.int_eval (1)) rfl), trivial⟩ ⟨hq.1, hq.2.1, (hq.2.2.sift fun y hy => Or.inr (N y hy)).mono (by decide) (by decide)⟩⟩
theorem main_1_1 : Claimed_1_1 := comes_1 fun _ _ _ _ _ _ h hF => ⟨h.1, hF⟩
theorem main_1_2 : Claimed_1_2 := comes_1 fun _ _ _ _ _ _ h hF => ⟨h.2.1, hF⟩
end Jvm.Pilot.@@N@@
namespace Jvm.Pilot.@@N@@
open Jvm Jvm.ClassFile Sem Op Lib Jvm.Free Jvm.Stand Jvm.Pilot.@@N@@.Jvm.D
/-! MADE BY PROGRAM (witnessworld.py) out of the Statement's table words and the real class files: 10 classes; the members and pool entries that the words name. The judged class is class 1, her method 3. -/
namespace start1
open Jvm.ClassFile
def u (s : String) : CpInfo := .utf8 (stringToUtf16 s)
/-- a pool by its gaps: so many unusable entries, then the entry; so many at the end -/
def gap : Nat → List CpInfo → List CpInfo
  | 0, r => r
  | n + 1, r => .unusable :: gap n r
def poolList (es : List (Nat × CpInfo)) (last : Nat) : List CpInfo := es.foldr (fun e r => gap e.1 (e.2 :: r)) (gap last [])
def pool (es : List (Nat × CpInfo)) (last : Nat) : Array CpInfo := ⟨poolList es last⟩
def fileOf (pool : Array CpInfo) (this : Nat) (attrs : Array Attribute := #[]) (ms : Array MethodInfo := #[]) (fl : Nat := 33) (sup : Nat := 0) (ifs : Array Nat := #[]) (fds : Array FieldInfo := #[]) : ClassFile where
  minorVersion := 0
  majorVersion := 65
  constantPool := pool
  accessFlags := fl
  thisClass := this
  superClass := sup
  interfaces := ifs
  fields := fds
  methods := ms
  attributes := attrs
def plain (name : String) (sup : Option ClassId) : Class where
  name := name
  kind := .ordinary
  loader := none
  accessFlags := 33
  super := sup
  interfaces := #[]
  cf := none
  fields := #[]
  methods := #[]
  instanceTypes := #[]
  staticTypes := #[]
  resolved := #[]
  callSites := []
  init := .initialized
  statics := none
  mirror := none

def pool0 : Array CpInfo := pool [(5, u "<init>"), (0, u "()V"), (1, .class_ 10), (1, u "java/lang/Object")] 113

def k0m0 : Method := { name := "<init>", desc := "()V", sig := { parameters := [], returnType := none }, accessFlags := 1, code := none }
/-- java/lang/Object -/
def k0 : Class := { plain "java/lang/Object" none with
  accessFlags := 33
  interfaces := #[]
  cf := some (fileOf pool0 8 #[] #[{ accessFlags := 1, nameIndex := 5, descriptorIndex := 6, attributes := #[] }] 33 0 #[] #[])
  fields := #[]
  methods := #[k0m0]
  instanceTypes := #[]
  staticTypes := #[]
  resolved := Array.replicate 124 none
  statics := none }

def pool1 : Array CpInfo := pool [(2, .class_ 4), (1, u "java/lang/Object"), (0, u "<init>"), (0, u "()V"), (0, .long 3), (1, .methodref 10 11), (0, .class_ 12), (0, .nameAndType 13 14), (0, u "com/example/dyn_authz/dynauthz/service/RequestHeadEndPinLaw"), (0, u "pick"), (0, u "(JJI)B"), (0, .integer 2147483647), (0, .methodref 17 18), (0, .class_ 19), (0, .nameAndType 20 21), (0, u "java/lang/Math"), (0, u "max"), (0, u "(II)I"), (0, .methodref 10 23), (0, .nameAndType 24 25), (0, u "endsAt"), (0, u "([BIII)Z"), (0, .methodref 27 28), (0, .class_ 29), (0, .nameAndType 30 31), (0, u "com/example/dyn_authz/dynauthz/service/RequestHead"), (0, u "end"), (0, u "([BIII)I"), (3, u "law"), (0, u "(JJIII)Z")] 4

def k1m0 : Method := { name := "<init>", desc := "()V", sig := { parameters := [], returnType := none }, accessFlags := 1, code := none }
def k1c1 : Code := { maxStack := 4, maxLocals := 6, code := method_2_code, exceptionTable := #[], attributes := #[] }
def k1m1 : Method := { name := "pick", desc := "(JJI)B", sig := { parameters := [.long, .long, .int], returnType := some .byte }, accessFlags := 10, code := some k1c1 }
def k1c2 : Code := { maxStack := 3, maxLocals := 4, code := method_3_code, exceptionTable := #[], attributes := #[] }
def k1m2 : Method := { name := "endsAt", desc := "([BIII)Z", sig := { parameters := [(.array .byte), .int, .int, .int], returnType := some .boolean }, accessFlags := 10, code := some k1c2 }
def k1c3 : Code := { maxStack := 7, maxLocals := 13, code := code, exceptionTable := #[], attributes := #[] }
def k1m3 : Method := { name := "law", desc := "(JJIII)Z", sig := { parameters := [.long, .long, .int, .int, .int], returnType := some .boolean }, accessFlags := 9, code := some k1c3 }
/-- com/example/dyn_authz/dynauthz/service/RequestHeadEndPinLaw -/
def k1 : Class := { plain "com/example/dyn_authz/dynauthz/service/RequestHeadEndPinLaw" (some 0) with
  accessFlags := 49
  interfaces := #[]
  cf := some (fileOf pool1 10 #[] #[{ accessFlags := 1, nameIndex := 5, descriptorIndex := 6, attributes := #[] }, { accessFlags := 10, nameIndex := 13, descriptorIndex := 14, attributes := #[] }, { accessFlags := 10, nameIndex := 24, descriptorIndex := 25, attributes := #[] }, { accessFlags := 9, nameIndex := 35, descriptorIndex := 36, attributes := #[] }] 49 2 #[] #[])
  fields := #[]
  methods := #[k1m0, k1m1, k1m2, k1m3]
  instanceTypes := #[]
  staticTypes := #[]
  resolved := Array.replicate 41 none
  statics := none }

def pool2 : Array CpInfo := pool [(1, .class_ 2), (0, u "java/lang/Math"), (1, .class_ 6), (1, u "java/lang/Object"), (0, u "<init>"), (0, u "()V"), (89, .class_ 100), (1, u "java/lang/Math$RandomNumberGeneratorHolder"), (71, u "negativeZeroFloatBits"), (0, u "J"), (2, u "negativeZeroDoubleBits"), (21, u "max"), (46, u "$assertionsDisabled"), (0, u "Z"), (88, u "(II)I"), (2, u "twoToTheDoubleScaleDown"), (0, u "D"), (4, u "twoToTheDoubleScaleUp"), (9, u "E"), (3, u "PI"), (2, u "TAU"), (2, u "DEGREES_TO_RADIANS"), (0, u "RADIANS_TO_DEGREES")] 94

def k2m0 : Method := { name := "<init>", desc := "()V", sig := { parameters := [], returnType := none }, accessFlags := 2, code := none }
def k2c1 : Code := { maxStack := 2, maxLocals := 2, code := jdk_29_method_65_code, exceptionTable := #[], attributes := #[] }
def k2m1 : Method := { name := "max", desc := "(II)I", sig := { parameters := [.int, .int], returnType := some .int }, accessFlags := 9, code := some k2c1 }
/-- java/lang/Math -/
def k2 : Class := { plain "java/lang/Math" (some 0) with
  accessFlags := 49
  interfaces := #[]
  cf := some (fileOf pool2 1 #[.nestMembers #[98]] #[{ accessFlags := 2, nameIndex := 7, descriptorIndex := 8, attributes := #[] }, { accessFlags := 9, nameIndex := 198, descriptorIndex := 335, attributes := #[] }] 49 4 #[] #[{ accessFlags := 25, nameIndex := 354, descriptorIndex := 339, attributes := #[] }, { accessFlags := 25, nameIndex := 358, descriptorIndex := 339, attributes := #[] }, { accessFlags := 25, nameIndex := 361, descriptorIndex := 339, attributes := #[] }, { accessFlags := 26, nameIndex := 364, descriptorIndex := 339, attributes := #[] }, { accessFlags := 26, nameIndex := 365, descriptorIndex := 339, attributes := #[] }, { accessFlags := 26, nameIndex := 172, descriptorIndex := 173, attributes := #[] }, { accessFlags := 26, nameIndex := 176, descriptorIndex := 173, attributes := #[] }, { accessFlags := 8, nameIndex := 344, descriptorIndex := 339, attributes := #[] }, { accessFlags := 8, nameIndex := 338, descriptorIndex := 339, attributes := #[] }, { accessFlags := 4120, nameIndex := 245, descriptorIndex := 246, attributes := #[] }])
  fields := #[{ name := "E", type := .double, accessFlags := 25, slot := 0, constantValue := 0 }, { name := "PI", type := .double, accessFlags := 25, slot := 1, constantValue := 0 }, { name := "TAU", type := .double, accessFlags := 25, slot := 2, constantValue := 0 }, { name := "DEGREES_TO_RADIANS", type := .double, accessFlags := 26, slot := 3, constantValue := 0 }, { name := "RADIANS_TO_DEGREES", type := .double, accessFlags := 26, slot := 4, constantValue := 0 }, { name := "negativeZeroFloatBits", type := .long, accessFlags := 26, slot := 5, constantValue := 0 }, { name := "negativeZeroDoubleBits", type := .long, accessFlags := 26, slot := 6, constantValue := 0 }, { name := "twoToTheDoubleScaleUp", type := .double, accessFlags := 8, slot := 7, constantValue := 0 }, { name := "twoToTheDoubleScaleDown", type := .double, accessFlags := 8, slot := 8, constantValue := 0 }, { name := "$assertionsDisabled", type := .boolean, accessFlags := 4120, slot := 9, constantValue := 0 }]
  methods := #[k2m0, k2m1]
  instanceTypes := #[]
  staticTypes := #[.double, .double, .double, .double, .double, .long, .long, .double, .double, .boolean]
  resolved := Array.replicate 460 none
  statics := none }

def pool3 : Array CpInfo := pool [(2, .class_ 4), (1, u "java/lang/Object"), (3, .class_ 10), (1, u "com/example/dyn_authz/dynauthz/service/RequestHead"), (0, u "_method"), (0, u "Ljava/lang/String;"), (2, u "_target"), (0, u "Ljava/net/URI;"), (2, u "_http10"), (0, u "Z"), (2, u "_fields"), (0, u "Ljava/util/Map;"), (6, u "_chunked"), (18, u "_bodyLength"), (0, u "J"), (0, .methodref 53 54), (0, .class_ 55), (0, .nameAndType 56 57), (0, u "java/lang/Math"), (0, u "max"), (0, u "(II)I"), (271, u "MAX_BYTES"), (0, u "I"), (1, u "MAX_FIELDS"), (1, u "TOKEN_PUNCTUATION"), (7, u "end"), (0, u "([BIII)I")] 40

def k3c0 : Code := { maxStack := 3, maxLocals := 5, code := prog_48_method_2_code, exceptionTable := #[], attributes := #[] }
def k3m0 : Method := { name := "end", desc := "([BIII)I", sig := { parameters := [(.array .byte), .int, .int, .int], returnType := some .int }, accessFlags := 8, code := some k3c0 }
/-- com/example/dyn_authz/dynauthz/service/RequestHead -/
def k3 : Class := { plain "com/example/dyn_authz/dynauthz/service/RequestHead" (some 0) with
  accessFlags := 48
  interfaces := #[]
  cf := some (fileOf pool3 8 #[] #[{ accessFlags := 8, nameIndex := 342, descriptorIndex := 343, attributes := #[] }] 48 2 #[] #[{ accessFlags := 24, nameIndex := 329, descriptorIndex := 330, attributes := #[] }, { accessFlags := 24, nameIndex := 332, descriptorIndex := 330, attributes := #[] }, { accessFlags := 26, nameIndex := 334, descriptorIndex := 12, attributes := #[] }, { accessFlags := 18, nameIndex := 11, descriptorIndex := 12, attributes := #[] }, { accessFlags := 18, nameIndex := 15, descriptorIndex := 16, attributes := #[] }, { accessFlags := 18, nameIndex := 19, descriptorIndex := 20, attributes := #[] }, { accessFlags := 18, nameIndex := 23, descriptorIndex := 24, attributes := #[] }, { accessFlags := 18, nameIndex := 50, descriptorIndex := 51, attributes := #[] }, { accessFlags := 18, nameIndex := 31, descriptorIndex := 20, attributes := #[] }])
  fields := #[{ name := "MAX_BYTES", type := .int, accessFlags := 24, slot := 0, constantValue := 0 }, { name := "MAX_FIELDS", type := .int, accessFlags := 24, slot := 1, constantValue := 0 }, { name := "TOKEN_PUNCTUATION", type := (.object "java/lang/String"), accessFlags := 26, slot := 2, constantValue := 0 }, { name := "_method", type := (.object "java/lang/String"), accessFlags := 18, slot := 0, constantValue := 0 }, { name := "_target", type := (.object "java/net/URI"), accessFlags := 18, slot := 1, constantValue := 0 }, { name := "_http10", type := .boolean, accessFlags := 18, slot := 2, constantValue := 0 }, { name := "_fields", type := (.object "java/util/Map"), accessFlags := 18, slot := 3, constantValue := 0 }, { name := "_bodyLength", type := .long, accessFlags := 18, slot := 4, constantValue := 0 }, { name := "_chunked", type := .boolean, accessFlags := 18, slot := 5, constantValue := 0 }]
  methods := #[k3m0]
  instanceTypes := #[(.object "java/lang/String"), (.object "java/net/URI"), .boolean, (.object "java/util/Map"), .long, .boolean]
  staticTypes := #[.int, .int, (.object "java/lang/String")]
  resolved := Array.replicate 384 none
  statics := none }

def pool4 : Array CpInfo := pool [(1, u "java/lang/Cloneable"), (0, .class_ 1), (0, u "java/lang/Object"), (0, .class_ 3)] 3

/-- java/lang/Cloneable -/
def k4 : Class := { plain "java/lang/Cloneable" (some 0) with
  accessFlags := 1537
  interfaces := #[]
  cf := some (fileOf pool4 2 #[] #[] 1537 4 #[] #[])
  fields := #[]
  methods := #[]
  instanceTypes := #[]
  staticTypes := #[]
  resolved := Array.replicate 8 none
  statics := none }

def pool5 : Array CpInfo := pool [(1, u "java/io/Serializable"), (0, .class_ 1), (0, u "java/lang/Object"), (0, .class_ 3)] 3

/-- java/io/Serializable -/
def k5 : Class := { plain "java/io/Serializable" (some 0) with
  accessFlags := 1537
  interfaces := #[]
  cf := some (fileOf pool5 2 #[] #[] 1537 4 #[] #[])
  fields := #[]
  methods := #[]
  instanceTypes := #[]
  staticTypes := #[]
  resolved := Array.replicate 8 none
  statics := none }

/-- the primitive byte -/
def k6 : Class := { plain "byte" none with kind := .primitive 'B', accessFlags := 0x411 }
/-- [B -/
def k7 : Class := { plain "[B" (some 0) with kind := .array 6 .byte, interfaces := #[4, 5], accessFlags := 1041 }

/-- the primitive int -/
def k8 : Class := { plain "int" none with kind := .primitive 'I', accessFlags := 0x411 }
/-- [I -/
def k9 : Class := { plain "[I" (some 0) with kind := .array 8 .int, interfaces := #[4, 5], accessFlags := 1041 }

def heap : Heap := #[]
def classes : Array Class := #[k0, k1, k2, k3, k4, k5, k6, k7, k8, k9]
def interned : List (Array UInt16 × Addr) := []
def slotsUsed : Nat := 0
def theMethod : MethodId := ⟨1, 3⟩
def args0 : Array Value := #[.long 5, .long 7, .int 3, .int 4, .int 1]
def aboutOver (below : List Frame) : State where
  vm := { classes := classes, interned := interned.toArray }
  heap := heap
  slotsUsed := slotsUsed
  threads := #[{ frames := .invoking theMethod args0 :: below }]
def below0 : List Frame := [.native { method := ⟨0, 0⟩, args := #[] }]
def about1 : State := aboutOver below0
def p0 : Program := .bare "" "" ""
def e0 : Env := launch0.env 0 0 0
theorem w_frames : about1.frames = Frame.invoking theMethod args0 :: below0 := rfl
set_option maxRecDepth 65536 in
theorem w_args : argsFit about1.vm theMethod args0 = true := by decide +kernel
set_option maxRecDepth 65536 in
theorem w_heap : heapFits about1 = true := by decide +kernel
set_option maxRecDepth 65536 in
theorem w_runnable : about1.curStatus? = some .runnable := by decide +kernel
set_option maxRecDepth 65536 in
theorem w_alone : about1.alone = true := by decide +kernel
set_option maxRecDepth 65536 in
theorem w_named : about1.methodNamed? x = some theMethod := by decide +kernel
set_option maxRecDepth 65536 in
theorem w_hears : about1.hears theMethod below0 = true := by decide +kernel
set_option maxRecDepth 65536 in
theorem w_ripe : about1.ripe theMethod args0 below0 = true := by decide +kernel
theorem w_running : about1.status = .running := rfl
set_option maxRecDepth 65536 in
theorem w_room : about1.hasRoom e0.platform room_1 = true :=
  launch0.hasRoom_least _ room_1 (by decide +kernel) (by decide +kernel) (by decide +kernel) (by decide +kernel) (by decide +kernel) (by decide +kernel)
theorem allAtoms_all (ts : List Jvm.Cond) (a : Array Jvm.Value) (st : Jvm.State) : (allAtoms ts).before a st = ts.all (fun c => c.before a st) := by
  induction ts with
  | nil => rfl
  | cons c t ih =>
    show (Jvm.Cond.and c (allAtoms t)).before a st = _
    rw [Jvm.Cond.before_and, ih, List.all_cons]
def words1 : List Jvm.Cond := Jvm.Cond.code x code maxLocals ret :: tables_1
/-- a 'code' word, met by the world's own term for the bytes: nothing is compared byte by byte -/
theorem code_word {y : MethodName} {bytes : ByteArray} {mx : Nat} {rt : Option FieldType} {a : Array Value} {s : State} {m : MethodId} {meth : Method} {c : Code} (h1 : s.methodNamed? y = some m) (h2 : s.vm.method? m = some meth) (h3 : meth.code = some c) (h4 : c.code = bytes)
    (h5 : (c.maxLocals == mx && c.exceptionTable.isEmpty && decide (c.maxStack ≤ mostOperands) && decide (meth.sig.returnType = rt) && !meth.locks && decide (parseMethodDescriptor y.desc = some meth.sig)) = true) : (Jvm.Cond.code y bytes mx rt).before a s = true := by
  simp only [Bool.and_eq_true, beq_iff_eq, Bool.not_eq_true', decide_eq_true_eq] at h5
  obtain ⟨⟨⟨⟨⟨g1, g2⟩, g3⟩, g4⟩, g5⟩, g6⟩ := h5
  simp [Cond.before, Cond.holds, Cond.value, h1, h2, h3, h4, g1, g2, g3, g4, g5, g6]
def isCode : Jvm.Cond → Bool
  | .code _ _ _ _ => true
  | _ => false
theorem all_split {L : List Jvm.Cond} {P : Jvm.Cond → Bool} (h1 : L.all (fun c => isCode c || P c) = true) (h2 : ∀ c ∈ L.filter isCode, P c = true) : L.all P = true := by
  refine List.all_eq_true.mpr fun c hc => ?_
  have h := List.all_eq_true.mp h1 c hc
  rcases Bool.eq_false_or_eq_true (isCode c) with hi | hi
  · exact h2 c (List.mem_filter.mpr ⟨hc, hi⟩)
  · simpa [hi] using h
set_option maxRecDepth 65536 in
theorem w_c0 : (Jvm.Cond.code x code maxLocals ret).before args0 about1 = true := code_word (m := ⟨1, 3⟩) (meth := k1m3) (c := k1c3) (by decide +kernel) rfl rfl rfl (by decide +kernel)
set_option maxRecDepth 65536 in
theorem w_c1 : (Jvm.Cond.code ({ cls := "com/example/dyn_authz/dynauthz/service/RequestHeadEndPinLaw", name := "pick", desc := "(JJI)B" } : Jvm.MethodName) method_2_code (6 : Nat) (Option.some Jvm.ClassFile.FieldType.byte)).before args0 about1 = true := code_word (m := ⟨1, 1⟩) (meth := k1m1) (c := k1c1) (by decide +kernel) rfl rfl rfl (by decide +kernel)
set_option maxRecDepth 65536 in
theorem w_c2 : (Jvm.Cond.code ({ cls := "java/lang/Math", name := "max", desc := "(II)I" } : Jvm.MethodName) jdk_29_method_65_code (2 : Nat) (Option.some Jvm.ClassFile.FieldType.int)).before args0 about1 = true := code_word (m := ⟨2, 1⟩) (meth := k2m1) (c := k2c1) (by decide +kernel) rfl rfl rfl (by decide +kernel)
set_option maxRecDepth 65536 in
theorem w_c3 : (Jvm.Cond.code ({ cls := "com/example/dyn_authz/dynauthz/service/RequestHeadEndPinLaw", name := "endsAt", desc := "([BIII)Z" } : Jvm.MethodName) method_3_code (4 : Nat) (Option.some Jvm.ClassFile.FieldType.boolean)).before args0 about1 = true := code_word (m := ⟨1, 2⟩) (meth := k1m2) (c := k1c2) (by decide +kernel) rfl rfl rfl (by decide +kernel)
set_option maxRecDepth 65536 in
theorem w_c4 : (Jvm.Cond.code ({ cls := "com/example/dyn_authz/dynauthz/service/RequestHead", name := "end", desc := "([BIII)I" } : Jvm.MethodName) prog_48_method_2_code (5 : Nat) (Option.some Jvm.ClassFile.FieldType.int)).before args0 about1 = true := code_word (m := ⟨3, 0⟩) (meth := k3m0) (c := k3c0) (by decide +kernel) rfl rfl rfl (by decide +kernel)
def codes1 : List Jvm.Cond := [Jvm.Cond.code x code maxLocals ret, Jvm.Cond.code ({ cls := "com/example/dyn_authz/dynauthz/service/RequestHeadEndPinLaw", name := "pick", desc := "(JJI)B" } : Jvm.MethodName) method_2_code (6 : Nat) (Option.some Jvm.ClassFile.FieldType.byte), Jvm.Cond.code ({ cls := "java/lang/Math", name := "max", desc := "(II)I" } : Jvm.MethodName) jdk_29_method_65_code (2 : Nat) (Option.some Jvm.ClassFile.FieldType.int), Jvm.Cond.code ({ cls := "com/example/dyn_authz/dynauthz/service/RequestHeadEndPinLaw", name := "endsAt", desc := "([BIII)Z" } : Jvm.MethodName) method_3_code (4 : Nat) (Option.some Jvm.ClassFile.FieldType.boolean), Jvm.Cond.code ({ cls := "com/example/dyn_authz/dynauthz/service/RequestHead", name := "end", desc := "([BIII)I" } : Jvm.MethodName) prog_48_method_2_code (5 : Nat) (Option.some Jvm.ClassFile.FieldType.int)]
set_option maxRecDepth 65536 in
theorem codes_eq : words1.filter isCode = codes1 := rfl
theorem w_codes : ∀ c ∈ words1.filter isCode, c.before args0 about1 = true := by
  rw [codes_eq]
  intro c hc
  simp only [codes1, List.mem_cons, List.not_mem_nil, or_false] at hc
  rcases hc with rfl | rfl | rfl | rfl | rfl
  · exact w_c0
  · exact w_c1
  · exact w_c2
  · exact w_c3
  · exact w_c4
set_option maxRecDepth 65536 in
theorem w_t1 : words1.all (fun c => isCode c || c.before args0 about1) = true := by decide +kernel
theorem w_tables : (allAtoms (Jvm.Cond.code x code maxLocals ret :: tables_1)).before args0 about1 = true := by
  rw [allAtoms_all]
  show words1.all (fun c => c.before args0 about1) = true
  refine all_split ?_ w_codes
  rw [w_t1]
set_option maxRecDepth 65536 in
theorem w_case : (Jvm.Cond.and given_1 narrow_1).before args0 about1 = true := by decide +kernel
theorem w_applies : (headSpec (Jvm.Cond.code x code maxLocals ret :: tables_1) room_1).applies x e0.platform about1 = true :=
  (Spec.applies_iff w_frames).mpr ⟨w_running, w_runnable, w_alone, w_named, w_hears, w_ripe, w_room, w_tables⟩
theorem atStart : AtStart classFile x code maxLocals ret World_1 tables_1 room_1 Calls_1 rest_1 Pre_1 launch0 p0 e0 about1 theMethod args0 below0 :=
  ⟨lists_1, trivial, launch0.admits_env _ _ _, launch0.least_env, fairChoices_fair.cas, fairChoices_fair.clock, w_frames, w_args, w_heap, w_applies, trivial, trivial, w_case⟩
end start1
theorem witness_1 : WitnessClaimed_1 := ⟨start1.p0, start1.e0, start1.about1, start1.theMethod, start1.args0, start1.below0, start1.atStart⟩
end Jvm.Pilot.@@N@@
