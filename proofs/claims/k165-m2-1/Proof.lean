import JvmDerived
import JvmDerived.Pilot.@@N@@Statement
import JvmDerived.Pilot.@@N@@Code
set_option linter.unusedVariables false
set_option linter.unusedSimpArgs false
namespace Jvm.Own
open Sem ClassFile Op Lib Jvm.Stand Jvm.Free Jvm.LawKit Jvm.RoadKit
/-! ### what is left to walk, and one law a step -/
def Go (p : Program) (e : Env) (below : List Frame) (P : Outcome → State → Prop) (S : State) : Prop :=
  ∃ s₂ o, Steps p.tables e below S s₂ ∧ s₂.status = .running ∧ Ended s₂ below o ∧ P o s₂
def Fini (s : State) (Q : Option Value → Heap → List Loc → Prop) (k n : Nat) (o : Outcome) (U : State) : Prop :=
  ∃ v L, o = .returned v ∧ Q v U.heap L ∧ FrameEnd s o U L k n
def Ct (l : Launch) (y : MethodName) (bytes : ByteArray) (maxL : Nat) (ret : Option FieldType) (ws : List Jvm.Cond) (rm : Room) (Z : State) (as : Array Value) (h : Heap) (Q : Option Value → Heap → List Loc → Prop) : Prop :=
  MetFree l y (head1 (Jvm.Cond.code y bytes maxL ret :: ws) rm) (fun a U => a = as ∧ Z.Warmed39 U.vm ∧ U.heap = h) (fun _ _ _ _ _ => True) (fun _ U o U' => ∃ v L, o = .returned v ∧ Q v U'.heap L ∧ FrameEnd U o U' L rm.cells rm.slots)
section Walk
variable {p : Program} {l : Launch} {e : Env} {R : Room} {s : State} {m : MethodId} {args : Array Value} {below : List Frame} {meth : Method} {c : Code} {T : State} {locs : List Loc} {cells slots : Nat} {P : Outcome → State → Prop} {Z : State} {a0 : Array Value} {h : Heap}
variable {pc : Nat} {L : Array Slot} {rest st : List Value}
theorem Go.via {A B : State} (q : ∀ t, Steps p.tables e below B t → Steps p.tables e below A t) (k : Go p e below P B) : Go p e below P A := by
  obtain ⟨s2, o, h1, h2⟩ := k
  exact ⟨s2, o, q _ h1, h2⟩
theorem Go.tr {A B : State} (q : Steps p.tables e below A B) (k : Go p e below P B) : Go p e below P A := Go.via (fun _ r => q.trans r) k
theorem enter {y : MethodName} {bytes : ByteArray} {maxL : Nat} {ret : Option FieldType} {ws : List Jvm.Cond} {rm : Room} {as : Array Value} {Q : Option Value → Heap → List Loc → Prop} (hy : plainFor y = true)
    (body : ∀ p e s m below meth c s₁, p.tables.exec = Jvm.exec → c.code = bytes → c.maxLocals = maxL → s.vm.findClass y.cls = some m.cls → meth.name = y.name → meth.sig.returnType = ret → meth.locks = false → Z.Warmed39 s.vm →
      Stand p l e rm s m as below meth c s₁ [] 0 0 → s₁.heap = h → Go p e below (Fini s Q rm.cells rm.slots) (s₁.setTop (entryFrame m as maxL))) : Ct l y bytes maxL ret ws rm Z as h Q := by
  refine MetFree.of_bodySF hy hisR ?_
  intro p e s m args below meth c s₁ Bd hml hP hK
  obtain ⟨rfl, hZ, hh⟩ := hP
  exact body p e s m below meth c s₁ Bd.exec Bd.bytes hml (findClass_of_methodNamed Bd.named) (name_of_methodNamed Bd.named Bd.method).1 Bd.returns Bd.notSynchronized hZ (Stand.of_body Bd) (by rw [← hh, Bd.state]; rfl)
theorem start {g g' : JFrame} (q : g = g') (k : Go p e below P (T.setTop g')) : Go p e below P (T.setTop g) := q ▸ k
theorem induct {α : Type} (S : α → State) (I : Nat → α → Prop) (base : ∀ a, I 0 a → Go p e below P (S a)) (step : ∀ k a, I (k + 1) a → (∀ a', I k a' → Go p e below P (S a')) → Go p e below P (S a)) {n : Nat} {a : α} (w : I n a) : Go p e below P (S a) := by
  induction n generalizing a with
  | zero => exact base a w
  | succ k ih => exact step k a w (fun a' w' => ih w')
/-! plain steps -/
theorem aloadN (X : Stand p l e R s m args below meth c T locs cells slots) (hx : p.tables.exec = Jvm.exec) {i : Fin 4} {v : Value} (hd : decode c.code pc = .ok (.aload_n i, 1)) (hl : L[i.val]? = some (.val v)) (hv : v.isRef = true) (k : Go p e below P (T.setTop (mkF m (pc + 1) L (v :: st)))) : Go p e below P (T.setTop (mkF m pc L st)) := Go.via (fun _ q => XS.aloadN X.here hx rfl hd hl hv q) k
theorem aload (X : Stand p l e R s m args below meth c T locs cells slots) (hx : p.tables.exec = Jvm.exec) {i : Nat} {v : Value} (hd : decode c.code pc = .ok (.aload i, 2)) (hl : L[i]? = some (.val v)) (hv : v.isRef = true) (k : Go p e below P (T.setTop (mkF m (pc + 2) L (v :: st)))) : Go p e below P (T.setTop (mkF m pc L st)) := Go.via (fun _ q => XS.aload X.here hx rfl hd hl hv q) k
theorem iloadN (X : Stand p l e R s m args below meth c T locs cells slots) (hx : p.tables.exec = Jvm.exec) {i : Fin 4} {v : Int32} (hd : decode c.code pc = .ok (.iload_n i, 1)) (hl : L[i.val]? = some (.val (.int v))) (k : Go p e below P (T.setTop (mkF m (pc + 1) L (.int v :: st)))) : Go p e below P (T.setTop (mkF m pc L st)) := Go.via (fun _ q => XS.iloadN X.here hx rfl hd hl q) k
theorem iload (X : Stand p l e R s m args below meth c T locs cells slots) (hx : p.tables.exec = Jvm.exec) {i : Nat} {v : Int32} (hd : decode c.code pc = .ok (.iload i, 2)) (hl : L[i]? = some (.val (.int v))) (k : Go p e below P (T.setTop (mkF m (pc + 2) L (.int v :: st)))) : Go p e below P (T.setTop (mkF m pc L st)) := Go.via (fun _ q => XS.iload X.here hx rfl hd hl q) k
theorem lloadN (X : Stand p l e R s m args below meth c T locs cells slots) (hx : p.tables.exec = Jvm.exec) {i : Fin 4} {v : Int64} (hd : decode c.code pc = .ok (.lload_n i, 1)) (hl : L[i.val]? = some (.val (.long v))) (k : Go p e below P (T.setTop (mkF m (pc + 1) L (.long v :: st)))) : Go p e below P (T.setTop (mkF m pc L st)) := Go.via (fun _ q => XT.lloadN X.here hx rfl hd hl q) k
theorem lload (X : Stand p l e R s m args below meth c T locs cells slots) (hx : p.tables.exec = Jvm.exec) {i : Nat} {v : Int64} (hd : decode c.code pc = .ok (.lload i, 2)) (hl : L[i]? = some (.val (.long v))) (k : Go p e below P (T.setTop (mkF m (pc + 2) L (.long v :: st)))) : Go p e below P (T.setTop (mkF m pc L st)) := Go.via (fun _ q => XT.lload X.here hx rfl hd hl q) k
theorem istoreN (X : Stand p l e R s m args below meth c T locs cells slots) (hx : p.tables.exec = Jvm.exec) {i : Fin 4} {v : Int32} (L' : Array Slot) (hd : decode c.code pc = .ok (.istore_n i, 1)) (hl : storeLocals L i.val (.int v) = some L') (k : Go p e below P (T.setTop (mkF m (pc + 1) L' st))) : Go p e below P (T.setTop (mkF m pc L (.int v :: st))) := Go.via (fun _ q => XS.istoreN X.here hx rfl hd rfl hl q) k
theorem istore (X : Stand p l e R s m args below meth c T locs cells slots) (hx : p.tables.exec = Jvm.exec) {i : Nat} {v : Int32} (L' : Array Slot) (hd : decode c.code pc = .ok (.istore i, 2)) (hl : storeLocals L i (.int v) = some L') (k : Go p e below P (T.setTop (mkF m (pc + 2) L' st))) : Go p e below P (T.setTop (mkF m pc L (.int v :: st))) := Go.via (fun _ q => XS.istore X.here hx rfl hd rfl hl q) k
theorem lstoreN (X : Stand p l e R s m args below meth c T locs cells slots) (hx : p.tables.exec = Jvm.exec) {i : Fin 4} {v : Int64} (L' : Array Slot) (hd : decode c.code pc = .ok (.lstore_n i, 1)) (hl : storeLocals L i.val (.long v) = some L') (k : Go p e below P (T.setTop (mkF m (pc + 1) L' st))) : Go p e below P (T.setTop (mkF m pc L (.long v :: st))) := Go.via (fun _ q => XT.lstoreN X.here hx rfl hd rfl hl q) k
theorem lstore (X : Stand p l e R s m args below meth c T locs cells slots) (hx : p.tables.exec = Jvm.exec) {i : Nat} {v : Int64} (L' : Array Slot) (hd : decode c.code pc = .ok (.lstore i, 2)) (hl : storeLocals L i (.long v) = some L') (k : Go p e below P (T.setTop (mkF m (pc + 2) L' st))) : Go p e below P (T.setTop (mkF m pc L (.long v :: st))) := Go.via (fun _ q => XT.lstore X.here hx rfl hd rfl hl q) k
theorem astoreN (X : Stand p l e R s m args below meth c T locs cells slots) (hx : p.tables.exec = Jvm.exec) {i : Fin 4} {v : Value} (L' : Array Slot) (hd : decode c.code pc = .ok (.astore_n i, 1)) (hv : v.isRef = true) (hl : storeLocals L i.val v = some L') (k : Go p e below P (T.setTop (mkF m (pc + 1) L' st))) : Go p e below P (T.setTop (mkF m pc L (v :: st))) := Go.via (fun _ q => XS.astoreN X.here hx rfl hd rfl hv hl q) k
theorem astore (X : Stand p l e R s m args below meth c T locs cells slots) (hx : p.tables.exec = Jvm.exec) {i : Nat} {v : Value} (L' : Array Slot) (hd : decode c.code pc = .ok (.astore i, 2)) (hv : v.isRef = true) (hl : storeLocals L i v = some L') (k : Go p e below P (T.setTop (mkF m (pc + 2) L' st))) : Go p e below P (T.setTop (mkF m pc L (v :: st))) := Go.via (fun _ q => XS.astore X.here hx rfl hd rfl hv hl q) k
theorem iconst (X : Stand p l e R s m args below meth c T locs cells slots) (hx : p.tables.exec = Jvm.exec) {i : Int} (v : Int32) (hd : decode c.code pc = .ok (.iconst i, 1)) (hv : Int32.ofInt i = v) (k : Go p e below P (T.setTop (mkF m (pc + 1) L (.int v :: st)))) : Go p e below P (T.setTop (mkF m pc L st)) := Go.via (fun _ q => XS.iconst X.here hx rfl hd (hv ▸ q)) k
theorem bipush (X : Stand p l e R s m args below meth c T locs cells slots) (hx : p.tables.exec = Jvm.exec) {i : Int} (v : Int32) (hd : decode c.code pc = .ok (.bipush i, 2)) (hv : (Int8.ofInt i).toInt32 = v) (k : Go p e below P (T.setTop (mkF m (pc + 2) L (.int v :: st)))) : Go p e below P (T.setTop (mkF m pc L st)) := Go.via (fun _ q => XS.bipush X.here hx rfl hd (hv ▸ q)) k
theorem sipush (X : Stand p l e R s m args below meth c T locs cells slots) (hx : p.tables.exec = Jvm.exec) {i : Int} (v : Int32) (hd : decode c.code pc = .ok (.sipush i, 3)) (hv : (Int16.ofInt i).toInt32 = v) (k : Go p e below P (T.setTop (mkF m (pc + 3) L (.int v :: st)))) : Go p e below P (T.setTop (mkF m pc L st)) := Go.via (fun _ q => XS.sipush X.here hx rfl hd (hv ▸ q)) k
theorem lconst (X : Stand p l e R s m args below meth c T locs cells slots) (hx : p.tables.exec = Jvm.exec) {i : Fin 2} (v : Int64) (hd : decode c.code pc = .ok (.lconst i, 1)) (hv : Int64.ofNat i = v) (k : Go p e below P (T.setTop (mkF m (pc + 1) L (.long v :: st)))) : Go p e below P (T.setTop (mkF m pc L st)) := Go.via (fun _ q => XT.lconst X.here hx rfl hd (hv ▸ q)) k
theorem aconstNull (X : Stand p l e R s m args below meth c T locs cells slots) (hx : p.tables.exec = Jvm.exec) (hd : decode c.code pc = .ok (.aconst_null, 1)) (k : Go p e below P (T.setTop (mkF m (pc + 1) L (.null :: st)))) : Go p e below P (T.setTop (mkF m pc L st)) := Go.via (fun _ q => XS.aconstNull X.here hx rfl hd q) k
theorem ldcI (X : Stand p l e R s m args below meth c T locs cells slots) (hx : p.tables.exec = Jvm.exec) (hZ : Z.Warmed39 s.vm) {own : String} {i : Nat} {v : Int32} (hown : s.vm.findClass own = some m.cls) (w : (Cond.constant own i v).before a0 Z = true) (hd : decode c.code pc = .ok (.ldc i, 2)) (k : Go p e below P (T.setTop (mkF m (pc + 2) L (.int v :: st)))) : Go p e below P (T.setTop (mkF m pc L st)) := Go.via (fun _ q => X.ldcI hx hown (mvT hZ w) rfl hd q) k
theorem ldcWI (X : Stand p l e R s m args below meth c T locs cells slots) (hx : p.tables.exec = Jvm.exec) (hZ : Z.Warmed39 s.vm) {own : String} {i : Nat} {v : Int32} (hown : s.vm.findClass own = some m.cls) (w : (Cond.constant own i v).before a0 Z = true) (hd : decode c.code pc = .ok (.ldc_w i, 3)) (k : Go p e below P (T.setTop (mkF m (pc + 3) L (.int v :: st)))) : Go p e below P (T.setTop (mkF m pc L st)) := Go.via (fun _ q => X.ldcWI hx hown (mvT hZ w) rfl hd q) k
theorem ldc2J (X : Stand p l e R s m args below meth c T locs cells slots) (hx : p.tables.exec = Jvm.exec) (hZ : Z.Warmed39 s.vm) {own : String} {i : Nat} {v : Int64} (hown : s.vm.findClass own = some m.cls) (w : (Cond.constantLong own i v).before a0 Z = true) (hd : decode c.code pc = .ok (.ldc2_w i, 3)) (k : Go p e below P (T.setTop (mkF m (pc + 3) L (.long v :: st)))) : Go p e below P (T.setTop (mkF m pc L st)) := Go.via (fun _ q => X.ldc2J hx hown (mvT hZ w) rfl hd q) k
theorem iinc (X : Stand p l e R s m args below meth c T locs cells slots) (hx : p.tables.exec = Jvm.exec) {i : Nat} {d : Int} {x : Int32} (v : Int32) (L' : Array Slot) (hd : decode c.code pc = .ok (.iinc i d, 3)) (hv : Int32.ofInt d = v) (hl : L[i]? = some (.val (.int x))) (hl' : storeLocals L i (.int (x + v)) = some L') (k : Go p e below P (T.setTop (mkF m (pc + 3) L' st))) : Go p e below P (T.setTop (mkF m pc L st)) := Go.via (fun _ q => XS.iinc X.here hx rfl hd hl (hv ▸ hl') q) k
theorem goto (X : Stand p l e R s m args below meth c T locs cells slots) (hx : p.tables.exec = Jvm.exec) {o : Int} (pc' : Nat) (hd : decode c.code pc = .ok (.goto o, 3)) (ho : 0 ≤ (pc : Int) + o) (hp : ((pc : Int) + o).toNat = pc') (k : Go p e below P (T.setTop (mkF m pc' L st))) : Go p e below P (T.setTop (mkF m pc L st)) := Go.via (fun _ q => XS.goto X.here hx rfl rfl hd ho hp q) k
theorem ifYes (X : Stand p l e R s m args below meth c T locs cells slots) (hx : p.tables.exec = Jvm.exec) {cd : ClassFile.Cond} {x : Int32} {o : Int} (pc' : Nat) (hd : decode c.code pc = .ok (.ifCond cd o, 3)) (hc : ifCond.holds cd x = true) (ho : 0 ≤ (pc : Int) + o) (hp : ((pc : Int) + o).toNat = pc') (k : Go p e below P (T.setTop (mkF m pc' L st))) : Go p e below P (T.setTop (mkF m pc L (.int x :: st))) := Go.via (fun _ q => XS.ifYes X.here hx rfl rfl hd rfl hc ho hp q) k
theorem ifNo (X : Stand p l e R s m args below meth c T locs cells slots) (hx : p.tables.exec = Jvm.exec) {cd : ClassFile.Cond} {x : Int32} {o : Int} (hd : decode c.code pc = .ok (.ifCond cd o, 3)) (hc : ifCond.holds cd x = false) (k : Go p e below P (T.setTop (mkF m (pc + 3) L st))) : Go p e below P (T.setTop (mkF m pc L (.int x :: st))) := Go.via (fun _ q => XS.ifNo X.here hx rfl hd rfl hc q) k
theorem icmpYes (X : Stand p l e R s m args below meth c T locs cells slots) (hx : p.tables.exec = Jvm.exec) {cd : ClassFile.Cond} {x y : Int32} {o : Int} (pc' : Nat) (hd : decode c.code pc = .ok (.if_icmp cd o, 3)) (hc : if_icmp.holds cd x y = true) (ho : 0 ≤ (pc : Int) + o) (hp : ((pc : Int) + o).toNat = pc') (k : Go p e below P (T.setTop (mkF m pc' L st))) : Go p e below P (T.setTop (mkF m pc L (.int y :: .int x :: st))) := Go.via (fun _ q => XS.icmpYes X.here hx rfl rfl hd rfl hc ho hp q) k
theorem icmpNo (X : Stand p l e R s m args below meth c T locs cells slots) (hx : p.tables.exec = Jvm.exec) {cd : ClassFile.Cond} {x y : Int32} {o : Int} (hd : decode c.code pc = .ok (.if_icmp cd o, 3)) (hc : if_icmp.holds cd x y = false) (k : Go p e below P (T.setTop (mkF m (pc + 3) L st))) : Go p e below P (T.setTop (mkF m pc L (.int y :: .int x :: st))) := Go.via (fun _ q => XS.icmpNo X.here hx rfl hd rfl hc q) k
theorem ifnullYes (X : Stand p l e R s m args below meth c T locs cells slots) (hx : p.tables.exec = Jvm.exec) {o : Int} (pc' : Nat) (hd : decode c.code pc = .ok (.ifnull o, 3)) (ho : 0 ≤ (pc : Int) + o) (hp : ((pc : Int) + o).toNat = pc') (k : Go p e below P (T.setTop (mkF m pc' L st))) : Go p e below P (T.setTop (mkF m pc L (.null :: st))) := Go.via (fun _ q => XS.ifnullYes X.here hx rfl rfl hd rfl ho hp q) k
theorem ifnullNo (X : Stand p l e R s m args below meth c T locs cells slots) (hx : p.tables.exec = Jvm.exec) {o : Int} {b : Addr} (hd : decode c.code pc = .ok (.ifnull o, 3)) (k : Go p e below P (T.setTop (mkF m (pc + 3) L st))) : Go p e below P (T.setTop (mkF m pc L (.ref b :: st))) := Go.via (fun _ q => XS.ifnullNo X.here hx rfl hd rfl q) k
theorem ifnonnullYes (X : Stand p l e R s m args below meth c T locs cells slots) (hx : p.tables.exec = Jvm.exec) {o : Int} {b : Addr} (pc' : Nat) (hd : decode c.code pc = .ok (.ifnonnull o, 3)) (ho : 0 ≤ (pc : Int) + o) (hp : ((pc : Int) + o).toNat = pc') (k : Go p e below P (T.setTop (mkF m pc' L st))) : Go p e below P (T.setTop (mkF m pc L (.ref b :: st))) := Go.via (fun _ q => XT.ifnonnullYes X.here hx rfl rfl hd rfl ho hp q) k
theorem ifnonnullNo (X : Stand p l e R s m args below meth c T locs cells slots) (hx : p.tables.exec = Jvm.exec) {o : Int} (hd : decode c.code pc = .ok (.ifnonnull o, 3)) (k : Go p e below P (T.setTop (mkF m (pc + 3) L st))) : Go p e below P (T.setTop (mkF m pc L (.null :: st))) := Go.via (fun _ q => XT.ifnonnullNo X.here hx rfl hd rfl q) k
theorem dup (X : Stand p l e R s m args below meth c T locs cells slots) (hx : p.tables.exec = Jvm.exec) {v : Value} (hd : decode c.code pc = .ok (.dup, 1)) (hc : v.category = 1) (k : Go p e below P (T.setTop (mkF m (pc + 1) L (v :: v :: st)))) : Go p e below P (T.setTop (mkF m pc L (v :: st))) := Go.via (fun _ q => XS.dup X.here hx rfl hd rfl hc q) k
theorem dup2 (X : Stand p l e R s m args below meth c T locs cells slots) (hx : p.tables.exec = Jvm.exec) {v w : Value} (hd : decode c.code pc = .ok (.dup2, 1)) (hc : v.category = 1) (hc' : w.category = 1) (k : Go p e below P (T.setTop (mkF m (pc + 1) L (v :: w :: v :: w :: st)))) : Go p e below P (T.setTop (mkF m pc L (v :: w :: st))) := Go.via (fun _ q => XT.dup2 X.here hx rfl hd rfl hc hc' q) k
theorem dup2L (X : Stand p l e R s m args below meth c T locs cells slots) (hx : p.tables.exec = Jvm.exec) {v : Int64} (hd : decode c.code pc = .ok (.dup2, 1)) (k : Go p e below P (T.setTop (mkF m (pc + 1) L (.long v :: .long v :: st)))) : Go p e below P (T.setTop (mkF m pc L (.long v :: st))) := Go.via (fun _ q => XT.dup2L X.here hx rfl hd rfl q) k
theorem dupX1 (X : Stand p l e R s m args below meth c T locs cells slots) (hx : p.tables.exec = Jvm.exec) {v w : Value} (hd : decode c.code pc = .ok (.dup_x1, 1)) (hc : v.category = 1) (hc' : w.category = 1) (k : Go p e below P (T.setTop (mkF m (pc + 1) L (v :: w :: v :: st)))) : Go p e below P (T.setTop (mkF m pc L (v :: w :: st))) := Go.via (fun _ q => XT.dupX1 X.here hx rfl hd rfl hc hc' q) k
theorem pop (X : Stand p l e R s m args below meth c T locs cells slots) (hx : p.tables.exec = Jvm.exec) {v : Value} (hd : decode c.code pc = .ok (.pop, 1)) (hc : v.category = 1) (k : Go p e below P (T.setTop (mkF m (pc + 1) L st))) : Go p e below P (T.setTop (mkF m pc L (v :: st))) := Go.via (fun _ q => XT.pop X.here hx rfl hd rfl hc q) k
theorem xdupX2 {e : Env} {below : List Frame} {T target : State} {m : MethodId} {c : Code} {g : JFrame} (h : At T m c below) (hx : p.tables.exec = Jvm.exec) (hg : g.method = m) {x y z : Value} {rest : List Value} (hd : decode c.code g.pc = .ok (.dup_x2, 1)) (hs : g.stack = x :: y :: z :: rest) (hc : x.category = 1) (hc' : y.category = 1) (hc2 : z.category = 1)
    (hr : Steps p.tables e below (T.setTop { g with pc := g.pc + 1, stack := x :: y :: z :: x :: rest }) target) : Steps p.tables e below (T.setTop g) target := by
  subst hg
  jvm_step h [h.top, hx, hd, hs, hc, hc', hc2]
  exact hr
theorem dupX2 (X : Stand p l e R s m args below meth c T locs cells slots) (hx : p.tables.exec = Jvm.exec) {v w u : Value} (hd : decode c.code pc = .ok (.dup_x2, 1)) (hc : v.category = 1) (hc' : w.category = 1) (hc2 : u.category = 1) (k : Go p e below P (T.setTop (mkF m (pc + 1) L (v :: w :: u :: v :: st)))) : Go p e below P (T.setTop (mkF m pc L (v :: w :: u :: st))) := Go.via (fun _ q => xdupX2 X.here hx rfl hd rfl hc hc' hc2 q) k
theorem xdup2X2 {e : Env} {below : List Frame} {T target : State} {m : MethodId} {c : Code} {g : JFrame} (h : At T m c below) (hx : p.tables.exec = Jvm.exec) (hg : g.method = m) {x : Int64} {y z : Value} {rest : List Value} (hd : decode c.code g.pc = .ok (.dup2_x2, 1)) (hs : g.stack = .long x :: y :: z :: rest) (hc' : y.category = 1) (hc2 : z.category = 1)
    (hr : Steps p.tables e below (T.setTop { g with pc := g.pc + 1, stack := .long x :: y :: z :: .long x :: rest }) target) : Steps p.tables e below (T.setTop g) target := by
  subst hg
  jvm_step h [h.top, hx, hd, hs, hc', hc2]
  exact hr
theorem dup2X2 (X : Stand p l e R s m args below meth c T locs cells slots) (hx : p.tables.exec = Jvm.exec) {v : Int64} {w u : Value} (hd : decode c.code pc = .ok (.dup2_x2, 1)) (hc' : w.category = 1) (hc2 : u.category = 1) (k : Go p e below P (T.setTop (mkF m (pc + 1) L (.long v :: w :: u :: .long v :: st)))) : Go p e below P (T.setTop (mkF m pc L (.long v :: w :: u :: st))) := Go.via (fun _ q => xdup2X2 X.here hx rfl hd rfl hc' hc2 q) k
theorem iadd (X : Stand p l e R s m args below meth c T locs cells slots) (hx : p.tables.exec = Jvm.exec) {x y : Int32} (hd : decode c.code pc = .ok (.iadd, 1)) (k : Go p e below P (T.setTop (mkF m (pc + 1) L (.int (x + y) :: st)))) : Go p e below P (T.setTop (mkF m pc L (.int y :: .int x :: st))) := Go.via (fun _ q => XS.iadd X.here hx rfl hd rfl q) k
theorem isub (X : Stand p l e R s m args below meth c T locs cells slots) (hx : p.tables.exec = Jvm.exec) {x y : Int32} (hd : decode c.code pc = .ok (.isub, 1)) (k : Go p e below P (T.setTop (mkF m (pc + 1) L (.int (x - y) :: st)))) : Go p e below P (T.setTop (mkF m pc L (.int y :: .int x :: st))) := Go.via (fun _ q => XS.isub X.here hx rfl hd rfl q) k
theorem imul (X : Stand p l e R s m args below meth c T locs cells slots) (hx : p.tables.exec = Jvm.exec) {x y : Int32} (hd : decode c.code pc = .ok (.imul, 1)) (k : Go p e below P (T.setTop (mkF m (pc + 1) L (.int (x * y) :: st)))) : Go p e below P (T.setTop (mkF m pc L (.int y :: .int x :: st))) := Go.via (fun _ q => XS.imul X.here hx rfl hd rfl q) k
theorem iand (X : Stand p l e R s m args below meth c T locs cells slots) (hx : p.tables.exec = Jvm.exec) {x y : Int32} (hd : decode c.code pc = .ok (.iand, 1)) (k : Go p e below P (T.setTop (mkF m (pc + 1) L (.int (x &&& y) :: st)))) : Go p e below P (T.setTop (mkF m pc L (.int y :: .int x :: st))) := Go.via (fun _ q => XS.iand X.here hx rfl hd rfl q) k
theorem ior (X : Stand p l e R s m args below meth c T locs cells slots) (hx : p.tables.exec = Jvm.exec) {x y : Int32} (hd : decode c.code pc = .ok (.ior, 1)) (k : Go p e below P (T.setTop (mkF m (pc + 1) L (.int (x ||| y) :: st)))) : Go p e below P (T.setTop (mkF m pc L (.int y :: .int x :: st))) := Go.via (fun _ q => XT.ior X.here hx rfl hd rfl q) k
theorem ixor (X : Stand p l e R s m args below meth c T locs cells slots) (hx : p.tables.exec = Jvm.exec) {x y : Int32} (hd : decode c.code pc = .ok (.ixor, 1)) (k : Go p e below P (T.setTop (mkF m (pc + 1) L (.int (x ^^^ y) :: st)))) : Go p e below P (T.setTop (mkF m pc L (.int y :: .int x :: st))) := Go.via (fun _ q => XT.ixor X.here hx rfl hd rfl q) k
theorem ishl (X : Stand p l e R s m args below meth c T locs cells slots) (hx : p.tables.exec = Jvm.exec) {x y : Int32} (hd : decode c.code pc = .ok (.ishl, 1)) (k : Go p e below P (T.setTop (mkF m (pc + 1) L (.int (x <<< (y &&& 31)) :: st)))) : Go p e below P (T.setTop (mkF m pc L (.int y :: .int x :: st))) := Go.via (fun _ q => XT.ishl X.here hx rfl hd rfl q) k
theorem ishr (X : Stand p l e R s m args below meth c T locs cells slots) (hx : p.tables.exec = Jvm.exec) {x y : Int32} (hd : decode c.code pc = .ok (.ishr, 1)) (k : Go p e below P (T.setTop (mkF m (pc + 1) L (.int (x >>> (y &&& 31)) :: st)))) : Go p e below P (T.setTop (mkF m pc L (.int y :: .int x :: st))) := Go.via (fun _ q => XT.ishr X.here hx rfl hd rfl q) k
theorem iushr (X : Stand p l e R s m args below meth c T locs cells slots) (hx : p.tables.exec = Jvm.exec) {x y : Int32} (hd : decode c.code pc = .ok (.iushr, 1)) (k : Go p e below P (T.setTop (mkF m (pc + 1) L (.int (XT.ushr x y) :: st)))) : Go p e below P (T.setTop (mkF m pc L (.int y :: .int x :: st))) := Go.via (fun _ q => XT.iushr X.here hx rfl hd rfl q) k
theorem idiv (X : Stand p l e R s m args below meth c T locs cells slots) (hx : p.tables.exec = Jvm.exec) {x y : Int32} (hd : decode c.code pc = .ok (.idiv, 1)) (hy : y ≠ 0) (k : Go p e below P (T.setTop (mkF m (pc + 1) L (.int (x / y) :: st)))) : Go p e below P (T.setTop (mkF m pc L (.int y :: .int x :: st))) := Go.via (fun _ q => XS.idiv X.here hx rfl hd rfl hy q) k
theorem irem (X : Stand p l e R s m args below meth c T locs cells slots) (hx : p.tables.exec = Jvm.exec) {x y : Int32} (hd : decode c.code pc = .ok (.irem, 1)) (hy : y ≠ 0) (k : Go p e below P (T.setTop (mkF m (pc + 1) L (.int (x % y) :: st)))) : Go p e below P (T.setTop (mkF m pc L (.int y :: .int x :: st))) := Go.via (fun _ q => iremM X hx (g := mkF m pc L (.int y :: .int x :: st)) rfl hd rfl hy q) k
theorem ladd (X : Stand p l e R s m args below meth c T locs cells slots) (hx : p.tables.exec = Jvm.exec) {x y : Int64} (hd : decode c.code pc = .ok (.ladd, 1)) (k : Go p e below P (T.setTop (mkF m (pc + 1) L (.long (x + y) :: st)))) : Go p e below P (T.setTop (mkF m pc L (.long y :: .long x :: st))) := Go.via (fun _ q => XT.ladd X.here hx rfl hd rfl q) k
theorem lsub (X : Stand p l e R s m args below meth c T locs cells slots) (hx : p.tables.exec = Jvm.exec) {x y : Int64} (hd : decode c.code pc = .ok (.lsub, 1)) (k : Go p e below P (T.setTop (mkF m (pc + 1) L (.long (x - y) :: st)))) : Go p e below P (T.setTop (mkF m pc L (.long y :: .long x :: st))) := Go.via (fun _ q => XT.lsub X.here hx rfl hd rfl q) k
theorem lmul (X : Stand p l e R s m args below meth c T locs cells slots) (hx : p.tables.exec = Jvm.exec) {x y : Int64} (hd : decode c.code pc = .ok (.lmul, 1)) (k : Go p e below P (T.setTop (mkF m (pc + 1) L (.long (x * y) :: st)))) : Go p e below P (T.setTop (mkF m pc L (.long y :: .long x :: st))) := Go.via (fun _ q => XT.lmul X.here hx rfl hd rfl q) k
theorem land (X : Stand p l e R s m args below meth c T locs cells slots) (hx : p.tables.exec = Jvm.exec) {x y : Int64} (hd : decode c.code pc = .ok (.land, 1)) (k : Go p e below P (T.setTop (mkF m (pc + 1) L (.long (x &&& y) :: st)))) : Go p e below P (T.setTop (mkF m pc L (.long y :: .long x :: st))) := Go.via (fun _ q => XT.land X.here hx rfl hd rfl q) k
theorem lor (X : Stand p l e R s m args below meth c T locs cells slots) (hx : p.tables.exec = Jvm.exec) {x y : Int64} (hd : decode c.code pc = .ok (.lor, 1)) (k : Go p e below P (T.setTop (mkF m (pc + 1) L (.long (x ||| y) :: st)))) : Go p e below P (T.setTop (mkF m pc L (.long y :: .long x :: st))) := Go.via (fun _ q => XT.lor X.here hx rfl hd rfl q) k
theorem lxor (X : Stand p l e R s m args below meth c T locs cells slots) (hx : p.tables.exec = Jvm.exec) {x y : Int64} (hd : decode c.code pc = .ok (.lxor, 1)) (k : Go p e below P (T.setTop (mkF m (pc + 1) L (.long (x ^^^ y) :: st)))) : Go p e below P (T.setTop (mkF m pc L (.long y :: .long x :: st))) := Go.via (fun _ q => XT.lxor X.here hx rfl hd rfl q) k
theorem lshl (X : Stand p l e R s m args below meth c T locs cells slots) (hx : p.tables.exec = Jvm.exec) {x : Int64} {y : Int32} (hd : decode c.code pc = .ok (.lshl, 1)) (k : Go p e below P (T.setTop (mkF m (pc + 1) L (.long (x <<< (y.toInt64 &&& 63)) :: st)))) : Go p e below P (T.setTop (mkF m pc L (.int y :: .long x :: st))) := Go.via (fun _ q => XT.lshl X.here hx rfl hd rfl q) k
theorem lshr (X : Stand p l e R s m args below meth c T locs cells slots) (hx : p.tables.exec = Jvm.exec) {x : Int64} {y : Int32} (hd : decode c.code pc = .ok (.lshr, 1)) (k : Go p e below P (T.setTop (mkF m (pc + 1) L (.long (x >>> (y.toInt64 &&& 63)) :: st)))) : Go p e below P (T.setTop (mkF m pc L (.int y :: .long x :: st))) := Go.via (fun _ q => XT.lshr X.here hx rfl hd rfl q) k
theorem lushr (X : Stand p l e R s m args below meth c T locs cells slots) (hx : p.tables.exec = Jvm.exec) {x : Int64} {y : Int32} (hd : decode c.code pc = .ok (.lushr, 1)) (k : Go p e below P (T.setTop (mkF m (pc + 1) L (.long (XT.ushrL x y) :: st)))) : Go p e below P (T.setTop (mkF m pc L (.int y :: .long x :: st))) := Go.via (fun _ q => XT.lushr X.here hx rfl hd rfl q) k
theorem ldiv (X : Stand p l e R s m args below meth c T locs cells slots) (hx : p.tables.exec = Jvm.exec) {x y : Int64} (hd : decode c.code pc = .ok (.ldiv, 1)) (hy : y ≠ 0) (k : Go p e below P (T.setTop (mkF m (pc + 1) L (.long (x / y) :: st)))) : Go p e below P (T.setTop (mkF m pc L (.long y :: .long x :: st))) := Go.via (fun _ q => XT.ldiv X.here hx rfl hd rfl hy q) k
theorem lrem (X : Stand p l e R s m args below meth c T locs cells slots) (hx : p.tables.exec = Jvm.exec) {x y : Int64} (hd : decode c.code pc = .ok (.lrem, 1)) (hy : y ≠ 0) (k : Go p e below P (T.setTop (mkF m (pc + 1) L (.long (x % y) :: st)))) : Go p e below P (T.setTop (mkF m pc L (.long y :: .long x :: st))) := Go.via (fun _ q => XT.lrem X.here hx rfl hd rfl hy (by rw [lrem_mod]; exact q)) k
theorem ineg (X : Stand p l e R s m args below meth c T locs cells slots) (hx : p.tables.exec = Jvm.exec) {x : Int32} (hd : decode c.code pc = .ok (.ineg, 1)) (k : Go p e below P (T.setTop (mkF m (pc + 1) L (.int ((-x)) :: st)))) : Go p e below P (T.setTop (mkF m pc L (.int x :: st))) := Go.via (fun _ q => XS.ineg X.here hx rfl hd rfl q) k
theorem lneg (X : Stand p l e R s m args below meth c T locs cells slots) (hx : p.tables.exec = Jvm.exec) {x : Int64} (hd : decode c.code pc = .ok (.lneg, 1)) (k : Go p e below P (T.setTop (mkF m (pc + 1) L (.long ((-x)) :: st)))) : Go p e below P (T.setTop (mkF m pc L (.long x :: st))) := Go.via (fun _ q => XT.lneg X.here hx rfl hd rfl q) k
theorem i2l (X : Stand p l e R s m args below meth c T locs cells slots) (hx : p.tables.exec = Jvm.exec) {x : Int32} (hd : decode c.code pc = .ok (.i2l, 1)) (k : Go p e below P (T.setTop (mkF m (pc + 1) L (.long (x.toInt64) :: st)))) : Go p e below P (T.setTop (mkF m pc L (.int x :: st))) := Go.via (fun _ q => XT.i2l X.here hx rfl hd rfl q) k
theorem l2i (X : Stand p l e R s m args below meth c T locs cells slots) (hx : p.tables.exec = Jvm.exec) {x : Int64} (hd : decode c.code pc = .ok (.l2i, 1)) (k : Go p e below P (T.setTop (mkF m (pc + 1) L (.int (x.toInt32) :: st)))) : Go p e below P (T.setTop (mkF m pc L (.long x :: st))) := Go.via (fun _ q => XT.l2i X.here hx rfl hd rfl q) k
theorem i2b (X : Stand p l e R s m args below meth c T locs cells slots) (hx : p.tables.exec = Jvm.exec) {x : Int32} (hd : decode c.code pc = .ok (.i2b, 1)) (k : Go p e below P (T.setTop (mkF m (pc + 1) L (.int (x.toInt8.toInt32) :: st)))) : Go p e below P (T.setTop (mkF m pc L (.int x :: st))) := Go.via (fun _ q => XT.i2b X.here hx rfl hd rfl q) k
theorem i2c (X : Stand p l e R s m args below meth c T locs cells slots) (hx : p.tables.exec = Jvm.exec) {x : Int32} (hd : decode c.code pc = .ok (.i2c, 1)) (k : Go p e below P (T.setTop (mkF m (pc + 1) L (.int (x.toUInt32.toUInt16.toUInt32.toInt32) :: st)))) : Go p e below P (T.setTop (mkF m pc L (.int x :: st))) := Go.via (fun _ q => XT.i2c X.here hx rfl hd rfl q) k
theorem i2s (X : Stand p l e R s m args below meth c T locs cells slots) (hx : p.tables.exec = Jvm.exec) {x : Int32} (hd : decode c.code pc = .ok (.i2s, 1)) (k : Go p e below P (T.setTop (mkF m (pc + 1) L (.int (x.toInt16.toInt32) :: st)))) : Go p e below P (T.setTop (mkF m pc L (.int x :: st))) := Go.via (fun _ q => XT.i2s X.here hx rfl hd rfl q) k
theorem lcmp (X : Stand p l e R s m args below meth c T locs cells slots) (hx : p.tables.exec = Jvm.exec) {x y : Int64} (hd : decode c.code pc = .ok (.lcmp, 1)) (k : Go p e below P (T.setTop (mkF m (pc + 1) L (.int (XT.cmpL x y) :: st)))) : Go p e below P (T.setTop (mkF m pc L (.long y :: .long x :: st))) := Go.via (fun _ q => XT.lcmp X.here hx rfl hd rfl q) k
theorem iincV (X : Stand p l e R s m args below meth c T locs cells slots) (hx : p.tables.exec = Jvm.exec) {i : Nat} {d : Int} {x : Int32} (v w : Int32) (L' : Array Slot) (hd : decode c.code pc = .ok (.iinc i d, 3)) (hv : Int32.ofInt d = v) (hl : L[i]? = some (.val (.int x))) (hw : x + v = w) (hl' : storeLocals L i (.int w) = some L') (k : Go p e below P (T.setTop (mkF m (pc + 3) L' st))) : Go p e below P (T.setTop (mkF m pc L st)) := Go.via (fun _ q => XS.iinc X.here hx rfl hd hl (hv ▸ hw ▸ hl') q) k
theorem topI {x y : Int32} (q : x = y) (k : Go p e below P (T.setTop (mkF m pc L (.int y :: st)))) : Go p e below P (T.setTop (mkF m pc L (.int x :: st))) := q ▸ k
theorem topJ {x y : Int64} (q : x = y) (k : Go p e below P (T.setTop (mkF m pc L (.long y :: st)))) : Go p e below P (T.setTop (mkF m pc L (.long x :: st))) := q ▸ k
/-! returns -/
theorem leaveR (X : Stand p l e R s m args below meth c T locs cells slots) (hk : meth.locks = false) {Q : Option Value → Heap → List Loc → Prop} {k n : Nat} {g : JFrame} {v : Option Value} (hv : meth.sig.returnType = none → v = none) (eT : T.heap = h) (hQ : Q v h locs) (hc : cells ≤ k) (hn : slots ≤ n)
    (st : ∀ fs, (∀ (f : JFrame) (acts : List Action), f.method = m → f.locked = none → f.entered = [] → (doReturn e (T.setTop f) acts v).1 = T.setFrames fs) → Steps p.tables e below (T.setTop g) (T.setFrames fs)) : Go p e below (Fini s Q k n) (T.setTop g) := by
  obtain ⟨fs, hr, hrun, hended, hW, hsame⟩ := X.leave (v := v) hv hk
  exact ⟨_, _, st fs hr, hrun, hended, _, _, rfl, by show Q v T.heap locs; rw [eT]; exact hQ, ⟨_, rfl⟩, hW, hsame.mono hc hn⟩
theorem ireturn (X : Stand p l e R s m args below meth c T locs cells slots) (hx : p.tables.exec = Jvm.exec) (hk : meth.locks = false) {Q : Option Value → Heap → List Loc → Prop} {k n : Nat} {t : FieldType} {z : Int32} (hret : meth.sig.returnType = some t) (ht : t = .int ∨ t = .boolean ∨ t = .byte ∨ t = .char ∨ t = .short) (hnr : narrow t (.int z) = .int z) (hd : decode c.code pc = .ok (.ireturn, 1)) (eT : T.heap = h) (hQ : Q (some (.int z)) h locs) (hc : cells ≤ k) (hn : slots ≤ n) : Go p e below (Fini s Q k n) (T.setTop (mkF m pc L (.int z :: rest))) :=
  leaveR X hk (v := some (.int z)) (fun q => by rw [hret] at q; cases q) eT hQ hc hn fun fs hr => retOut X hx hret hnr (Or.inl ⟨rfl, ht, z, rfl⟩) hd hr
theorem lreturn (X : Stand p l e R s m args below meth c T locs cells slots) (hx : p.tables.exec = Jvm.exec) (hk : meth.locks = false) {Q : Option Value → Heap → List Loc → Prop} {k n : Nat} {z : Int64} (hret : meth.sig.returnType = some .long) (hd : decode c.code pc = .ok (.lreturn, 1)) (eT : T.heap = h) (hQ : Q (some (.long z)) h locs) (hc : cells ≤ k) (hn : slots ≤ n) : Go p e below (Fini s Q k n) (T.setTop (mkF m pc L (.long z :: rest))) :=
  leaveR X hk (v := some (.long z)) (fun q => by rw [hret] at q; cases q) eT hQ hc hn fun fs hr => retOut X hx hret rfl (Or.inr (Or.inl ⟨rfl, rfl, z, rfl⟩)) hd hr
theorem areturn (X : Stand p l e R s m args below meth c T locs cells slots) (hx : p.tables.exec = Jvm.exec) (hk : meth.locks = false) {Q : Option Value → Heap → List Loc → Prop} {k n : Nat} {t : FieldType} {z : Value} (hret : meth.sig.returnType = some t) (ht : t.isReference = true) (hz : z.isRef = true) (hnr : narrow t z = z) (hd : decode c.code pc = .ok (.areturn, 1)) (eT : T.heap = h) (hQ : Q (some z) h locs) (hc : cells ≤ k) (hn : slots ≤ n) : Go p e below (Fini s Q k n) (T.setTop (mkF m pc L (z :: rest))) :=
  leaveR X hk (v := some z) (fun q => by rw [hret] at q; cases q) eT hQ hc hn fun fs hr => retOut X hx hret hnr (Or.inr (Or.inr (Or.inr (Or.inr ⟨rfl, ht, hz⟩)))) hd hr
theorem vreturn (X : Stand p l e R s m args below meth c T locs cells slots) (hx : p.tables.exec = Jvm.exec) (hk : meth.locks = false) {Q : Option Value → Heap → List Loc → Prop} {k n : Nat} (hret : meth.sig.returnType = none) (hd : decode c.code pc = .ok (.return_, 1)) (eT : T.heap = h) (hQ : Q none h locs) (hc : cells ≤ k) (hn : slots ≤ n) : Go p e below (Fini s Q k n) (T.setTop (mkF m pc L [])) :=
  leaveR X hk (v := none) (fun _ => rfl) eT hQ hc hn fun fs hr => X.returnOut hx hret hd hr
/-! String constants: the start with the tables at hand -/
def FiniW (s : State) (Q : Option Value → Heap → List Loc → Prop) (k n : Nat) (o : Outcome) (U : State) : Prop :=
  ∃ v L, o = .returned v ∧ Q v U.heap L ∧ ReturnedEndW s o U L k n
def CtW (l : Launch) (y : MethodName) (bytes : ByteArray) (maxL : Nat) (ret : Option FieldType) (ws : List Jvm.Cond) (rm : Room) (Z : State) (as : Array Value) (h : Heap) (Q : Option Value → Heap → List Loc → Prop) : Prop :=
  MetFree l y (head1 (Jvm.Cond.code y bytes maxL ret :: ws) rm) (fun a U => a = as ∧ Z.Warmed39 U.vm ∧ U.heap = h) (fun _ _ _ _ _ => True) (fun _ U o U' => ∃ v L, o = .returned v ∧ Q v U'.heap L ∧ ReturnedEndW U o U' L rm.cells rm.slots)
theorem enterW {y : MethodName} {bytes : ByteArray} {maxL : Nat} {ret : Option FieldType} {ws : List Jvm.Cond} {rm : Room} {as : Array Value} {Q : Option Value → Heap → List Loc → Prop} (hy : plainFor y = true)
    (body : ∀ p e s m below meth c s₁, p.tables.exec = Jvm.exec → c.code = bytes → c.maxLocals = maxL → s.vm.findClass y.cls = some m.cls → meth.name = y.name → meth.sig.returnType = ret → meth.locks = false → Z.Warmed39 s.vm →
      Stand p l e rm s m as below meth c s₁ [] 0 0 → s₁.heap = h → Go p e below (FiniW s Q rm.cells rm.slots) (s₁.setTop (entryFrame m as maxL))) : CtW l y bytes maxL ret ws rm Z as h Q := by
  refine MetFree.of_bodySF hy hisR ?_
  intro p e s m args below meth c s₁ Bd hml hP hK
  obtain ⟨rfl, hZ, hh⟩ := hP
  exact body p e s m below meth c s₁ Bd.exec Bd.bytes hml (findClass_of_methodNamed Bd.named) (name_of_methodNamed Bd.named Bd.method).1 Bd.returns Bd.notSynchronized hZ (Stand.of_body Bd) (by rw [← hh, Bd.state]; rfl)
theorem since0 (s : State) : s.Since s.vm 0 := State.WarmedH.since (State.WarmedH.refl s) 0
theorem ldcStr {vm0 : Vm} (X : Stand p l e R (s.setVm vm0) m args below meth c T locs cells slots) (hx : p.tables.exec = Jvm.exec) (hZ : Z.Warmed39 vm0) {own text : String} {i : Nat} (hown : vm0.findClass own = some m.cls) (w : (Cond.stringLink own i text).before a0 Z = true) (wS : ∀ a ∈ Bundle.stringAtoms, a.before a0 Z = true)
    (eT : T.heap = h) {k0 : Nat} (hS : s.Since vm0 k0) (hk : k0 ≤ h.size) (hd : decode c.code pc = .ok (.ldc i, 2)) (n : Nat) (hn : 4 * text.toList.length ≤ n) (hbig : n ≤ 536870912) (hc : cells + 2 ≤ R.cells) (hl : slots + (n + 4) ≤ R.slots)
    (k : ∀ (a : Addr) (T' : State) (h' : Heap) (k1 : Nat), Stand p l e R (s.setVm T'.vm) m args below meth c T' locs (cells + 2) (slots + (n + 4)) → T'.heap = h' → Ext h h' → s.Since T'.vm k1 → k1 ≤ h'.size → Z.Warmed39 (s.setVm T'.vm).vm → (s.setVm T'.vm).vm.findClass own = some m.cls → Go p e below P (T'.setTop (mkF m (pc + 2) L (.ref a :: st)))) : Go p e below P (T.setTop (mkF m pc L st)) := by
  obtain ⟨a, T', h', k1, X', e', E, hS', hk', hZ', hown', q⟩ := ldcS X hx hZ hown w wS eT hS hk (g := mkF m pc L st) rfl hd hn hbig hc hl
  exact Go.via q (k a T' h' k1 X' e' E hS' hk' hZ' hown')
theorem ireturnW {vm0 : Vm} (X : Stand p l e R (s.setVm vm0) m args below meth c T locs cells slots) (hx : p.tables.exec = Jvm.exec) (hk : meth.locks = false) {Q : Option Value → Heap → List Loc → Prop} {k n : Nat} {t : FieldType} {z : Int32} (hret : meth.sig.returnType = some t) (ht : t = .int ∨ t = .boolean ∨ t = .byte ∨ t = .char ∨ t = .short) (hnr : narrow t (.int z) = .int z) (hd : decode c.code pc = .ok (.ireturn, 1)) (eT : T.heap = h) {k0 : Nat} (hS : s.Since vm0 k0) (hk0 : k0 ≤ h.size) (hQ : Q (some (.int z)) h locs) (hc : cells ≤ k) (hn : slots ≤ n) : Go p e below (FiniW s Q k n) (T.setTop (mkF m pc L (.int z :: rest))) := by
  obtain ⟨fs, hr, hrun, hended, hW⟩ := X.leaveW hS (by rw [eT]; exact hk0) (v := some (.int z)) (fun q => by rw [hret] at q; cases q) hk
  exact ⟨_, _, retOut X hx hret hnr (Or.inl ⟨rfl, ht, z, rfl⟩) hd hr, hrun, hended, _, _, rfl, by show Q (some (.int z)) T.heap locs; rw [eT]; exact hQ, hW.1, hW.2.1, hW.2.2.1, hW.2.2.2.mono hc hn⟩
/-! fields, objects -/
theorem getfield (X : Stand p l e R s m args below meth c T locs cells slots) (hx : p.tables.exec = Jvm.exec) (hZ : Z.Warmed39 s.vm) {own R0 O n d host : String} {i : Nat} (hown : s.vm.findClass own = some m.cls) (w : (Cond.fieldLink own i R0 n d).before a0 Z = true ∨ (Cond.fieldLinkNest own i R0 n d host).before a0 Z = true) (via : Via Z R0 O n d)
    (eT : T.heap = h) {a : Addr} {v : Value} (F : Fld Z h a O n d v) (hd : decode c.code pc = .ok (.getfield i, 3)) (k : ∀ T', Stand p l e R s m args below meth c T' locs cells slots → T'.heap = h → Go p e below P (T'.setTop (mkF m (pc + 3) L (v :: st)))) : Go p e below P (T.setTop (mkF m pc L (.ref a :: st))) := by
  obtain ⟨T', X', e', q⟩ := getF X hx hZ hown w via eT F (g := mkF m pc L (.ref a :: st)) rfl rfl hd
  exact Go.via q (k T' X' e')
theorem putfield (X : Stand p l e R s m args below meth c T locs cells slots) (hx : p.tables.exec = Jvm.exec) (hZ : Z.Warmed39 s.vm) {own R0 O n d host C : String} {i kk : Nat} {ty : FieldType} (hown : s.vm.findClass own = some m.cls) (w : (Cond.fieldLink own i R0 n d).before a0 Z = true ∨ (Cond.fieldLinkNest own i R0 n d host).before a0 Z = true) (via : Via Z R0 O n d)
    (eT : T.heap = h) {a : Addr} {v old : Value} (F : Fld Z h a O n d old) (E : Exa Z h a C) (Ly : (Cond.lays C O n d).before a0 Z = true ∨ ((Cond.laysFinal C O n d).before a0 Z = true ∧ own = O ∧ meth.name = "<init>")) (wi : (Cond.instantiable C kk).before a0 Z = true)
    (hty : parseFieldDescriptor d = some ty) (hn : narrow ty v = v) (hf : fits ty v = true) {n0 : Nat} (N : Fr n0 locs) (ga : n0 ≤ a) (hd : decode c.code pc = .ok (.putfield i, 3))
    (k : ∀ T' h', Stand p l e R s m args below meth c T' (locs ++ [⟨a, Jvm.RoadKit.slotOf Z O n d⟩]) cells slots → T'.heap = h' → Wr h h' a (Jvm.RoadKit.slotOf Z O n d) v → Fr n0 (locs ++ [⟨a, Jvm.RoadKit.slotOf Z O n d⟩]) → Fld Z h' a O n d v → Go p e below P (T'.setTop (mkF m (pc + 3) L st))) : Go p e below P (T.setTop (mkF m pc L (v :: .ref a :: st))) := by
  obtain ⟨T', h', X', e', W, q⟩ := putF X hx hZ hown w via eT F E Ly wi hty hn hf (g := mkF m pc L (v :: .ref a :: st)) rfl rfl hd
  exact Go.via q (k T' h' X' e' W (Fr.snoc X' N ga) (F.same W))
theorem putfieldN (X : Stand p l e R s m args below meth c T locs cells slots) (hx : p.tables.exec = Jvm.exec) (hZ : Z.Warmed39 s.vm) {own R0 O n d C : String} {i kk : Nat} {ty : FieldType} (hown : s.vm.findClass own = some m.cls) (w : (Cond.fieldLink own i R0 n d).before a0 Z = true) (via : Via Z R0 O n d)
    (eT : T.heap = h) {a : Addr} {v v' old : Value} (F : Fld Z h a O n d old) (E : Exa Z h a C) (Ly : (Cond.lays C O n d).before a0 Z = true ∨ ((Cond.laysFinal C O n d).before a0 Z = true ∧ own = O ∧ meth.name = "<init>")) (wi : (Cond.instantiable C kk).before a0 Z = true)
    (hty : parseFieldDescriptor d = some ty) (hn : narrow ty v = v') (hf : fits ty v' = true) {n0 : Nat} (N : Fr n0 locs) (ga : n0 ≤ a) (hd : decode c.code pc = .ok (.putfield i, 3))
    (k : ∀ T' h', Stand p l e R s m args below meth c T' (locs ++ [⟨a, Jvm.RoadKit.slotOf Z O n d⟩]) cells slots → T'.heap = h' → Wr h h' a (Jvm.RoadKit.slotOf Z O n d) v' → Fr n0 (locs ++ [⟨a, Jvm.RoadKit.slotOf Z O n d⟩]) → Fld Z h' a O n d v' → Go p e below P (T'.setTop (mkF m (pc + 3) L st))) : Go p e below P (T.setTop (mkF m pc L (v :: .ref a :: st))) := by
  obtain ⟨T', h', X', e', W, q⟩ := putFN X hx hZ hown w via eT F E Ly wi hty hn hf (g := mkF m pc L (v :: .ref a :: st)) rfl rfl hd
  exact Go.via q (k T' h' X' e' W (Fr.snoc X' N ga) (F.same W))
theorem newobj (X : Stand p l e R s m args below meth c T locs cells slots) (hx : p.tables.exec = Jvm.exec) (hZ : Z.Warmed39 s.vm) {own C : String} {i n : Nat} (hown : s.vm.findClass own = some m.cls) (w : (Cond.classLink own i C).before a0 Z = true) (wi : (Cond.instantiable C n).before a0 Z = true) (wz : (Cond.initialized C).before a0 Z = true) (eT : T.heap = h)
    (hd : decode c.code pc = .ok (.new i, 3)) (hc : cells + 1 ≤ R.cells) (hl : slots + n ≤ R.slots)
    (k : ∀ T' h' b, b = h.size → Stand p l e R s m args below meth c T' locs (cells + 1) (slots + n) → T'.heap = h' → Ext h h' → Exa Z h' b C → (∀ {O nm d : String} {ty : FieldType}, Laid Z a0 C O nm d → parseFieldDescriptor d = some ty → Fld Z h' b O nm d (defaultValue ty)) → Go p e below P (T'.setTop (mkF m (pc + 3) L (.ref b :: st)))) : Go p e below P (T.setTop (mkF m pc L st)) := by
  obtain ⟨T', h', X', e', E, A, D, -, q⟩ := newO X hx hZ hown w wi wz eT (g := mkF m pc L st) rfl hd hc hl
  exact Go.via q (k T' h' h.size rfl X' e' E A D)
theorem initObj (X : Stand p l e R s m args below meth c T locs cells slots) (hx : p.tables.exec = Jvm.exec) (hZ : Z.Warmed39 s.vm) {own : String} {i : Nat} (hown : s.vm.findClass own = some m.cls) (w1 : (Cond.methodLink own i Lib.objectInit).before a0 Z = true) (w2 : (Cond.instanceMethod Lib.objectInit).before a0 Z = true)
    (w3 : (Cond.code Lib.objectInit ⟨#[0xb1]⟩ 1 none).before a0 Z = true) (eT : T.heap = h) (hsize : L.size = c.maxLocals) {a : Addr} (hd : decode c.code pc = .ok (.invokespecial i, 3)) (hf : 1 ≤ R.frames) (W : Nat) (hW : (st.map fun v => v.category).sum ≤ W) (hl : W + 12 ≤ R.locals)
    (k : ∀ T', Stand p l e R s m args below meth c T' locs cells slots → T'.heap = h → Go p e below P (T'.setTop (mkF m (pc + 3) L st))) : Go p e below P (T.setTop (mkF m pc L (.ref a :: st))) := by
  obtain ⟨T', X', e', q⟩ := initO X hx hZ hown w1 w2 w3 eT (g := mkF m pc L (.ref a :: st)) rfl hsize rfl hd hf (W := W) (by show 2 * 0 + _ ≤ _; omega) hl
  exact Go.via q (k T' X' e')
/-! arrays -/
/-- the array at a holds just these values -/
def VArr (Z : State) (h : Heap) (a : Addr) (ty : FieldType) (vs : List Value) : Prop := ∃ c : Cell, Arr Z h a c ty ∧ c.slots = vs.toArray ∧ vs.length < 2 ^ 31
section VA
variable {h' : Heap} {a b : Addr} {ty : FieldType} {vs : List Value} {sl : Nat} {v : Value} {ws : List Addr}
theorem VArr.lt (F : VArr Z h a ty vs) : a < h.size := by obtain ⟨c, A, -⟩ := F; exact A.lt
theorem VArr.ext (F : VArr Z h a ty vs) (E : Ext h h') : VArr Z h' a ty vs := by obtain ⟨c, A, r⟩ := F; exact ⟨c, A.ext E, r⟩
theorem VArr.other (F : VArr Z h b ty vs) (W : Wr h h' a sl v) (q : b ≠ a) : VArr Z h' b ty vs := by obtain ⟨c, A, r⟩ := F; exact ⟨c, A.other W q, r⟩
theorem VArr.keep (F : VArr Z h a ty vs) (K : Keep h h' ws) (q : a ∉ ws) : VArr Z h' a ty vs := by obtain ⟨c, A, r⟩ := F; exact ⟨c, ⟨K.2.1 a c A.1 q, A.2⟩, r⟩
theorem VArr.same (F : VArr Z h a ty vs) (W : Wr h h' a sl v) : VArr Z h' a ty (vs.set sl v) := by
  obtain ⟨c, A, r1, r2⟩ := F
  refine ⟨c.setSlot sl v, A.same W, ?_, by simpa using r2⟩
  simp [Cell.setSlot, r1]
theorem neVE {C : String} {kk : Nat} (F : VArr Z h a ty vs) (E : Exa Z h b C) (wi : (Cond.instantiable C kk).before a0 Z = true) : a ≠ b := by
  obtain ⟨c, A, -⟩ := F
  exact (ne_arr E wi A).symm
end VA
theorem in_of {vs : List Value} {v : Value} {i : Nat} {j : Int32} {c : Cell} (hn : ¬ j < 0) (hi : j.toNatClampNeg = i) (hv : vs[i]? = some v) (r : c.slots = vs.toArray) : ¬ (j < 0 ∨ c.slots.size ≤ j.toNatClampNeg) ∧ c.slots[j.toNatClampNeg]? = some v := by
  have hlt : i < vs.length := by
    obtain ⟨q, -⟩ := List.getElem?_eq_some_iff.mp hv
    exact q
  refine ⟨fun q => ?_, ?_⟩
  · rcases q with q | q
    · exact hn q
    · rw [r, hi] at q; simp at q; omega
  · rw [hi, r]; simpa using hv
theorem in_of' {vs : List Value} {i : Nat} {j : Int32} {c : Cell} (hn : ¬ j < 0) (hi : j.toNatClampNeg = i) (hv : i < vs.length) (r : c.slots = vs.toArray) : ¬ (j < 0 ∨ c.slots.size ≤ j.toNatClampNeg) := by
  intro q
  rcases q with q | q
  · exact hn q
  · rw [r, hi] at q; simp at q; omega
theorem alen (X : Stand p l e R s m args below meth c T locs cells slots) (hx : p.tables.exec = Jvm.exec) (hZ : Z.Warmed39 s.vm) (eT : T.heap = h) {a : Addr} {ty : FieldType} {vs : List Value} (V : VArr Z h a ty vs) (n : Int32) (hn : vs.length.toInt32 = n) (hd : decode c.code pc = .ok (.arraylength, 1)) (k : Go p e below P (T.setTop (mkF m (pc + 1) L (.int n :: st)))) : Go p e below P (T.setTop (mkF m pc L (.ref a :: st))) := by
  obtain ⟨cl, A, r1, -⟩ := V
  have q : cl.slots.size.toInt32 = n := by rw [r1]; simpa using hn
  exact Go.via (fun t w => X.arraylength hx (cell := cl) (by rw [eT]; exact A.1) (State.isArrayOf_alike hZ.alike A.2.1) (g := mkF m pc L (.ref a :: st)) rfl rfl hd t (by rw [q]; exact w)) k
theorem iaload (X : Stand p l e R s m args below meth c T locs cells slots) (hx : p.tables.exec = Jvm.exec) (hZ : Z.Warmed39 s.vm) (eT : T.heap = h) {a : Addr} {vs : List Value} (V : VArr Z h a .int vs) {j : Int32} {v : Value} (i : Nat) (hn : ¬ j < 0) (hi : j.toNatClampNeg = i) (hv : vs[i]? = some v) (hd : decode c.code pc = .ok (.iaload, 1)) (k : Go p e below P (T.setTop (mkF m (pc + 1) L (v :: st)))) : Go p e below P (T.setTop (mkF m pc L (.int j :: .ref a :: st))) := by
  obtain ⟨cl, A, r1, -⟩ := V
  obtain ⟨q1, q2⟩ := in_of hn hi hv r1
  exact Go.via (fun t w => X.iaload hx (by rw [eT]; exact A.1) (State.isArrayOf_alike hZ.alike A.2.1) A.2.2 q1 q2 (g := mkF m pc L (.int j :: .ref a :: st)) rfl rfl hd t w) k
theorem laload (X : Stand p l e R s m args below meth c T locs cells slots) (hx : p.tables.exec = Jvm.exec) (hZ : Z.Warmed39 s.vm) (eT : T.heap = h) {a : Addr} {vs : List Value} (V : VArr Z h a .long vs) {j : Int32} {v : Value} (i : Nat) (hn : ¬ j < 0) (hi : j.toNatClampNeg = i) (hv : vs[i]? = some v) (hd : decode c.code pc = .ok (.laload, 1)) (k : Go p e below P (T.setTop (mkF m (pc + 1) L (v :: st)))) : Go p e below P (T.setTop (mkF m pc L (.int j :: .ref a :: st))) := by
  obtain ⟨cl, A, r1, -⟩ := V
  obtain ⟨q1, q2⟩ := in_of hn hi hv r1
  exact Go.via (fun t w => X.laload hx (by rw [eT]; exact A.1) (State.isArrayOf_alike hZ.alike A.2.1) A.2.2 q1 q2 (g := mkF m pc L (.int j :: .ref a :: st)) rfl rfl hd t w) k
theorem baload (X : Stand p l e R s m args below meth c T locs cells slots) (hx : p.tables.exec = Jvm.exec) (hZ : Z.Warmed39 s.vm) (eT : T.heap = h) {a : Addr} {vs : List Value} (V : VArr Z h a .byte vs) {j : Int32} {v : Value} (i : Nat) (hn : ¬ j < 0) (hi : j.toNatClampNeg = i) (hv : vs[i]? = some v) (hd : decode c.code pc = .ok (.baload, 1)) (k : Go p e below P (T.setTop (mkF m (pc + 1) L (v :: st)))) : Go p e below P (T.setTop (mkF m pc L (.int j :: .ref a :: st))) := by
  obtain ⟨cl, A, r1, -⟩ := V
  obtain ⟨q1, q2⟩ := in_of hn hi hv r1
  exact Go.via (fun t w => X.baloadBytes hx (by rw [eT]; exact A.1) (State.isArrayOf_alike hZ.alike A.2.1) A.2.2 q1 q2 (g := mkF m pc L (.int j :: .ref a :: st)) rfl rfl hd t w) k
theorem iastore (X : Stand p l e R s m args below meth c T locs cells slots) (hx : p.tables.exec = Jvm.exec) (hZ : Z.Warmed39 s.vm) (eT : T.heap = h) {a : Addr} {vs : List Value} (V : VArr Z h a .int vs) {j x : Int32} (i : Nat) (hn : ¬ j < 0) (hi : j.toNatClampNeg = i) (hv : i < vs.length) {n0 : Nat} (N : Fr n0 locs) (ga : n0 ≤ a) (hd : decode c.code pc = .ok (.iastore, 1))
    (k : ∀ T' h', Stand p l e R s m args below meth c T' (locs ++ [⟨a, i⟩]) cells slots → T'.heap = h' → Wr h h' a i (.int x) → Fr n0 (locs ++ [⟨a, i⟩]) → VArr Z h' a .int (vs.set i (.int x)) → Go p e below P (T'.setTop (mkF m (pc + 1) L st))) : Go p e below P (T.setTop (mkF m pc L (.int x :: .int j :: .ref a :: st))) := by
  have V0 := V
  obtain ⟨cl, A, r1, -⟩ := V
  obtain ⟨T', h', X', e', W, q⟩ := stI X hx hZ eT A (in_of' hn hi hv r1) (g := mkF m pc L (.int x :: .int j :: .ref a :: st)) rfl rfl hd
  rw [hi] at X' W
  exact Go.via q (k T' h' X' e' W (Fr.snoc X' N ga) (V0.same W))
theorem lastore (X : Stand p l e R s m args below meth c T locs cells slots) (hx : p.tables.exec = Jvm.exec) (hZ : Z.Warmed39 s.vm) (eT : T.heap = h) {a : Addr} {vs : List Value} (V : VArr Z h a .long vs) {j : Int32} {x : Int64} (i : Nat) (hn : ¬ j < 0) (hi : j.toNatClampNeg = i) (hv : i < vs.length) {n0 : Nat} (N : Fr n0 locs) (ga : n0 ≤ a) (hd : decode c.code pc = .ok (.lastore, 1))
    (k : ∀ T' h', Stand p l e R s m args below meth c T' (locs ++ [⟨a, i⟩]) cells slots → T'.heap = h' → Wr h h' a i (.long x) → Fr n0 (locs ++ [⟨a, i⟩]) → VArr Z h' a .long (vs.set i (.long x)) → Go p e below P (T'.setTop (mkF m (pc + 1) L st))) : Go p e below P (T.setTop (mkF m pc L (.long x :: .int j :: .ref a :: st))) := by
  have V0 := V
  obtain ⟨cl, A, r1, -⟩ := V
  obtain ⟨T', h', X', e', W, q⟩ := stJ X hx hZ eT A (in_of' hn hi hv r1) (g := mkF m pc L (.long x :: .int j :: .ref a :: st)) rfl rfl hd
  rw [hi] at X' W
  exact Go.via q (k T' h' X' e' W (Fr.snoc X' N ga) (V0.same W))
theorem bastore (X : Stand p l e R s m args below meth c T locs cells slots) (hx : p.tables.exec = Jvm.exec) (hZ : Z.Warmed39 s.vm) (eT : T.heap = h) {a : Addr} {vs : List Value} (V : VArr Z h a .byte vs) {j x : Int32} (i : Nat) (hn : ¬ j < 0) (hi : j.toNatClampNeg = i) (hv : i < vs.length) {n0 : Nat} (N : Fr n0 locs) (ga : n0 ≤ a) (hd : decode c.code pc = .ok (.bastore, 1))
    (k : ∀ T' h', Stand p l e R s m args below meth c T' (locs ++ [⟨a, i⟩]) cells slots → T'.heap = h' → Wr h h' a i (.int x.toInt8.toInt32) → Fr n0 (locs ++ [⟨a, i⟩]) → VArr Z h' a .byte (vs.set i (.int x.toInt8.toInt32)) → Go p e below P (T'.setTop (mkF m (pc + 1) L st))) : Go p e below P (T.setTop (mkF m pc L (.int x :: .int j :: .ref a :: st))) := by
  have V0 := V
  obtain ⟨cl, A, r1, -⟩ := V
  obtain ⟨T', h', X', e', W, q⟩ := stB X hx hZ eT A (in_of' hn hi hv r1) (g := mkF m pc L (.int x :: .int j :: .ref a :: st)) rfl rfl hd
  rw [hi] at X' W
  exact Go.via q (k T' h' X' e' W (Fr.snoc X' N ga) (V0.same W))
theorem newarr (X : Stand p l e R s m args below meth c T locs cells slots) (hx : p.tables.exec = Jvm.exec) (hZ : Z.Warmed39 s.vm) {aty : ArrayType} (w : (Cond.arrayClass (newarray.typeOf aty)).before a0 Z = true) (eT : T.heap = h) (hd : decode c.code pc = .ok (.newarray aty, 2)) {n : Int32} (hn : ¬ n < 0) (i cap : Nat) (hi : n.toNatClampNeg = i) (hcap : i ≤ cap) (hb : cap * 8 ≤ 536870912) (hc : cells + 1 ≤ R.cells) (hl : slots + cap ≤ R.slots)
    (k : ∀ T' h' b, b = h.size → Stand p l e R s m args below meth c T' locs (cells + 1) (slots + cap) → T'.heap = h' → Ext h h' → VArr Z h' b (newarray.typeOf aty) (List.replicate i (defaultValue (newarray.typeOf aty))) → Go p e below P (T'.setTop (mkF m (pc + 2) L (.ref b :: st)))) : Go p e below P (T.setTop (mkF m pc L (.int n :: st))) := by
  obtain ⟨T', h', cA, X', e', E, A, q⟩ := newP X hx hZ w eT (g := mkF m pc L (.int n :: st)) rfl hd rfl hn (cap := cap) (by rw [hi]; exact hcap) hb hc hl
  refine Go.via q (k T' h' h.size rfl X' e' E ⟨_, A, ?_, ?_⟩)
  · simp [newA, hi]
  · simp; omega
/-! calls -/
theorem callStatic (X : Stand p l e R s m args below meth c T locs cells slots) (hx : p.tables.exec = Jvm.exec) (hZ : Z.Warmed39 s.vm) {own : String} {i : Nat} {y : MethodName} {bytes : ByteArray} {maxL : Nat} {ret : Option FieldType} {rm : Room} {Q : Option Value → Heap → List Loc → Prop}
    (hown : s.vm.findClass own = some m.cls) (w1 : (Cond.methodLink own i y).before a0 Z = true) (w2 : (Cond.static y).before a0 Z = true) (w3 : (Cond.initialized y.cls).before a0 Z = true) (w4 : (Cond.code y bytes maxL ret).before a0 Z = true) (hy : y.cls ≠ "java/lang/invoke/MethodHandle" ∧ y.cls ≠ "java/lang/invoke/VarHandle")
    (W : Nat) (argsL rest : List Value) (hM : Ct l y bytes maxL ret [] rm Z argsL.toArray h Q) (hf : rm.frames + 1 ≤ R.frames) (hl : W + (maxL + 11) + rm.locals ≤ R.locals) (eT : T.heap = h) (hsize : L.size = c.maxLocals) {ps : List FieldType} {rt : Option FieldType} (pd : parseMethodDescriptor y.desc = some ⟨ps, rt⟩) (hlen : argsL.length = ps.length) (hst : st = argsL.reverse ++ rest) (hW : (rest.map fun v => v.category).sum ≤ W)
    (hd : decode c.code pc = .ok (.invokestatic i, 3)) (hc : cells + rm.cells ≤ R.cells) (hn : slots + rm.slots ≤ R.slots)
    (k : ∀ T' L' v, Stand p l e R s m args below meth c T' (locs ++ L') (cells + rm.cells) (slots + rm.slots) → Q v T'.heap L' → Go p e below P (T'.setTop (mkF m (pc + 3) L (v.toList ++ rest)))) : Go p e below P (T.setTop (mkF m pc L st)) := by
  obtain ⟨v, _, ⟨T', L', k', n'⟩, -, X', ⟨Lc, hQ, l1, y1, z1⟩, q⟩ := Jvm.LawKit.callS X hx (y := y) hown (mvT hZ w1) (mvT hZ w2) (mvT hZ w3) (mvT hZ w4) hy (backOf (W := W) hM hZ w4 w3 hf hl) (g := mkF m pc L st) rfl hsize (argsL := argsL) (rest := rest) (lenOf pd hlen) hst (by show 2 * 0 + _ ≤ _; omega) hd (fun _ _ => ⟨rfl, eT, hc, hn⟩)
  dsimp only [Pt.U, Pt.locs, Pt.cells, Pt.slots] at X' l1 y1 z1 q hQ
  subst l1 y1 z1
  exact Go.via q (k T' Lc v X' hQ)
theorem callSpecial (X : Stand p l e R s m args below meth c T locs cells slots) (hx : p.tables.exec = Jvm.exec) (hZ : Z.Warmed39 s.vm) {own : String} {i : Nat} {y : MethodName} {bytes : ByteArray} {maxL : Nat} {rm : Room} {Q : Option Value → Heap → List Loc → Prop} (hy1 : y.name = "<init>")
    (hown : s.vm.findClass own = some m.cls) (w1 : (Cond.methodLink own i y).before a0 Z = true) (w2 : (Cond.instanceMethod y).before a0 Z = true) (w3 : (Cond.initialized y.cls).before a0 Z = true) (w4 : (Cond.code y bytes maxL none).before a0 Z = true) (hy : y.cls ≠ "java/lang/invoke/MethodHandle" ∧ y.cls ≠ "java/lang/invoke/VarHandle")
    (W : Nat) (a : Addr) (argsL rest : List Value) (hM : Ct l y bytes maxL none [] rm Z (.ref a :: argsL).toArray h Q) (hf : rm.frames + 1 ≤ R.frames) (hl : W + (maxL + 11) + rm.locals ≤ R.locals) (eT : T.heap = h) (hsize : L.size = c.maxLocals) {ps : List FieldType} {rt : Option FieldType} (pd : parseMethodDescriptor y.desc = some ⟨ps, rt⟩) (hlen : argsL.length = ps.length) (hst : st = argsL.reverse ++ .ref a :: rest) (hW : (rest.map fun v => v.category).sum ≤ W)
    (hd : decode c.code pc = .ok (.invokespecial i, 3)) (hc : cells + rm.cells ≤ R.cells) (hn : slots + rm.slots ≤ R.slots)
    (k : ∀ T' L' v, Stand p l e R s m args below meth c T' (locs ++ L') (cells + rm.cells) (slots + rm.slots) → Q v T'.heap L' → Go p e below P (T'.setTop (mkF m (pc + 3) L (v.toList ++ rest)))) : Go p e below P (T.setTop (mkF m pc L st)) := by
  obtain ⟨v, _, ⟨T', L', k', n'⟩, -, X', ⟨Lc, hQ, l1, y1, z1⟩, q⟩ := X.specialBack hx (y := y) hy1 hown (mvT hZ w1) (mvT hZ w2) (mvT hZ w4) hy (backOf (W := W) hM hZ w4 w3 hf hl) (g := mkF m pc L st) rfl hsize (Steps.refl _) (a := a) (argsL := argsL) (rest := rest) (lenOf pd hlen) hst (by show 2 * 0 + _ ≤ _; omega) hd (fun _ _ => ⟨rfl, eT, hc, hn⟩)
  dsimp only [Pt.U, Pt.locs, Pt.cells, Pt.slots] at X' l1 y1 z1 q hQ
  subst l1 y1 z1
  exact Go.tr q (k T' Lc v X' hQ)
theorem callVirtual (X : Stand p l e R s m args below meth c T locs cells slots) (hx : p.tables.exec = Jvm.exec) (hZ : Z.Warmed39 s.vm) {own C : String} {i : Nat} {y z : MethodName} {bytes : ByteArray} {maxL : Nat} {ret : Option FieldType} {rm : Room} {Q : Option Value → Heap → List Loc → Prop}
    (hown : s.vm.findClass own = some m.cls) (w1 : (Cond.methodLink own i y).before a0 Z = true) (w2 : (Cond.declares y).before a0 Z = true) (w3 : (Cond.selects C y z).before a0 Z = true) (w5 : (Cond.instanceMethod z).before a0 Z = true) (w6 : (Cond.initialized z.cls).before a0 Z = true) (w4 : (Cond.code z bytes maxL ret).before a0 Z = true) (w7 : (Cond.selects y.cls y y).before a0 Z = true) (hy : y.cls ≠ "java/lang/invoke/MethodHandle" ∧ y.cls ≠ "java/lang/invoke/VarHandle")
    (W : Nat) (a : Addr) (argsL rest : List Value) (E : Exa Z h a C) (hM : Ct l z bytes maxL ret [] rm Z (.ref a :: argsL).toArray h Q) (hf : rm.frames + 1 ≤ R.frames) (hl : W + (maxL + 11) + rm.locals ≤ R.locals) (eT : T.heap = h) (hsize : L.size = c.maxLocals) {ps : List FieldType} {rt : Option FieldType} (pd : parseMethodDescriptor y.desc = some ⟨ps, rt⟩) (hlen : argsL.length = ps.length) (hst : st = argsL.reverse ++ .ref a :: rest) (hW : (rest.map fun v => v.category).sum ≤ W)
    (hd : decode c.code pc = .ok (.invokevirtual i, 3)) (hc : cells + rm.cells ≤ R.cells) (hn : slots + rm.slots ≤ R.slots)
    (k : ∀ T' L' v, Stand p l e R s m args below meth c T' (locs ++ L') (cells + rm.cells) (slots + rm.slots) → Q v T'.heap L' → Go p e below P (T'.setTop (mkF m (pc + 3) L (v.toList ++ rest)))) : Go p e below P (T.setTop (mkF m pc L st)) := by
  obtain ⟨cq, kq, qa, qb, qc⟩ := isOf hZ eT E
  obtain ⟨v, _, ⟨T', L', k', n'⟩, -, X', ⟨Lc, hQ, l1, y1, z1⟩, q⟩ := X.virtualBack hx (y := y) (z := z) hown (mvT hZ w1) (mvT hZ w2) (notFace_of_selects (args := #[]) (mvT hZ w7)) (mvT hZ w3) (mvT hZ w5) hy (backOf (W := W) hM hZ w4 w6 hf hl) qa qc (g := mkF m pc L st) rfl hsize (Steps.refl _) (argsL := argsL) (rest := rest) (lenOf pd hlen) hst (by show 2 * 0 + _ ≤ _; omega) hd (fun _ _ => ⟨rfl, eT, hc, hn⟩)
  dsimp only [Pt.U, Pt.locs, Pt.cells, Pt.slots] at X' l1 y1 z1 q hQ
  subst l1 y1 z1
  exact Go.tr q (k T' Lc v X' hQ)
theorem callPrivate (X : Stand p l e R s m args below meth c T locs cells slots) (hx : p.tables.exec = Jvm.exec) (hZ : Z.Warmed39 s.vm) {own C : String} {i kk : Nat} {y : MethodName} {bytes : ByteArray} {maxL : Nat} {ret : Option FieldType} {rm : Room} {Q : Option Value → Heap → List Loc → Prop}
    (hown : s.vm.findClass own = some m.cls) (w1 : (Cond.methodLink own i y).before a0 Z = true) (w2 : (Cond.instanceMethod y).before a0 Z = true) (w3 : (Cond.privateMethod y).before a0 Z = true) (w5 : (Cond.instantiable y.cls kk).before a0 Z = true) (w6 : (Cond.initialized y.cls).before a0 Z = true) (w4 : (Cond.code y bytes maxL ret).before a0 Z = true) (hy : y.cls ≠ "java/lang/invoke/MethodHandle" ∧ y.cls ≠ "java/lang/invoke/VarHandle")
    (W : Nat) (a : Addr) (argsL rest : List Value) (E : Exa Z h a C) (hM : Ct l y bytes maxL ret [] rm Z (.ref a :: argsL).toArray h Q) (hf : rm.frames + 1 ≤ R.frames) (hl : W + (maxL + 11) + rm.locals ≤ R.locals) (eT : T.heap = h) (hsize : L.size = c.maxLocals) {ps : List FieldType} {rt : Option FieldType} (pd : parseMethodDescriptor y.desc = some ⟨ps, rt⟩) (hlen : argsL.length = ps.length) (hst : st = argsL.reverse ++ .ref a :: rest) (hW : (rest.map fun v => v.category).sum ≤ W)
    (hd : decode c.code pc = .ok (.invokevirtual i, 3)) (hc : cells + rm.cells ≤ R.cells) (hn : slots + rm.slots ≤ R.slots)
    (k : ∀ T' L' v, Stand p l e R s m args below meth c T' (locs ++ L') (cells + rm.cells) (slots + rm.slots) → Q v T'.heap L' → Go p e below P (T'.setTop (mkF m (pc + 3) L (v.toList ++ rest)))) : Go p e below P (T.setTop (mkF m pc L st)) := by
  have hP : s.PrivateAt y := Cond.privateMethod_at (args := #[]) (mvP hZ w3)
  have hsel : (Cond.selects y.cls y y).before args s = true := by
    have q : (Cond.instantiable y.cls kk).before args s = true := mvT hZ w5
    obtain ⟨c2, k2, i1, i2, -, i4, -⟩ := Cond.instantiable_spec q
    rw [Bool.or_eq_false_iff] at i4
    exact selects_self_of_private i1 i2 i4.1 hP (mvT hZ w2) hy
  obtain ⟨ce, he1, he2⟩ := E.cell
  obtain ⟨v, _, ⟨T', L', k', n'⟩, -, X', ⟨Lc, hQ, l1, y1, z1⟩, q⟩ := X.privateBack hx (y := y) hown (mvT hZ w1) (mvT hZ w2) hsel hP (mvT hZ w4) hy (backOf (W := W) hM hZ w4 w6 hf hl) (g := mkF m pc L st) rfl hsize (Steps.refl _) (a := a) (cell := ce) (by rw [eT]; exact he1) he2 (argsL := argsL) (rest := rest) (lenOf pd hlen) hst (by show 2 * 0 + _ ≤ _; omega) hd (fun _ _ => ⟨rfl, eT, hc, hn⟩)
  dsimp only [Pt.U, Pt.locs, Pt.cells, Pt.slots] at X' l1 y1 z1 q hQ
  subst l1 y1 z1
  exact Go.tr q (k T' Lc v X' hQ)
theorem getstatic (X : Stand p l e R s m args below meth c T locs cells slots) (hx : p.tables.exec = Jvm.exec) (hZ : Z.Warmed39 s.vm) {own R0 O n d : String} {i : Nat} (hown : s.vm.findClass own = some m.cls) (w : (Cond.fieldLink own i R0 n d).before a0 Z = true) (via : Via Z R0 O n d)
    (eT : T.heap = h) {v : Value} (F : Sta Z h O n d v) (hd : decode c.code pc = .ok (.getstatic i, 3)) (k : ∀ T', Stand p l e R s m args below meth c T' locs cells slots → T'.heap = h → Go p e below P (T'.setTop (mkF m (pc + 3) L (v :: st)))) : Go p e below P (T.setTop (mkF m pc L st)) := by
  obtain ⟨T', X', e', q⟩ := getS X hx hZ (host := "") hown w via eT F (g := mkF m pc L st) rfl hd
  exact Go.via q (k T' X' e')
theorem ldcFloat (X : Stand p l e R s m args below meth c T locs cells slots) (hx : p.tables.exec = Jvm.exec) (hZ : Z.Warmed39 s.vm) {own : String} {i : Nat} {b : UInt32} (hown : s.vm.findClass own = some m.cls) (w : (Cond.constantFloat own i b).before a0 Z = true) (hd : decode c.code pc = .ok (.ldc i, 2)) (k : Go p e below P (T.setTop (mkF m (pc + 2) L (.float b :: st)))) : Go p e below P (T.setTop (mkF m pc L st)) := Go.via (fun t q => X.ldcFloatC hx hown (mvT hZ w) (g := mkF m pc L st) rfl hd t q) k
theorem staKeep {O n d C : String} {v : Value} {h' : Heap} {a : Addr} (F : Sta Z h O n d v) (K : Keep h h' [a]) (E : Exa Z h a C) : Sta Z h' O n d v := by
  obtain ⟨cf, i, k, f, st, cell, h1, h2, h3, h4, h5, h6, h7⟩ := F
  obtain ⟨c2, k2, e1, -, -, e4, -⟩ := E
  have ne : st ∉ [a] := fun q => by
    cases List.mem_singleton.mp q
    cases h5.symm.trans e1
    rw [h6] at e4; cases e4
  exact ⟨cf, i, k, f, st, cell, h1, h2, h3, h4, K.2.1 _ _ h5 ne, h6, h7⟩
end Walk
end Jvm.Own
namespace Jvm.Pilot.@@N@@
open Jvm Jvm.ClassFile Sem Op Lib Jvm.Free Jvm.Stand Jvm.LawKit Jvm.RoadKit Bundle Jvm.Pilot.@@N@@.Jvm.D
theorem Wd {a0 : Array Value} {Z : State} (hw : ∀ d ∈ tables_1, d.before a0 Z = true) (i : Nat) {d : Jvm.Cond} (h : tables_1[i]? = some d) : d.before a0 Z = true := hw _ (List.mem_of_getElem? h)

theorem own_rem (x d : Int32) (D : Int) (h : d.toInt = D) (hD : 0 < D) : 0 ≤ ((x &&& (2147483647 : Int32)) % d).toInt ∧ ((x &&& (2147483647 : Int32)) % d).toInt < D := by
  have b := (c_and x (2147483647 : Int32) (by decide)).1
  have c := (c_iremV (x &&& (2147483647 : Int32)) d).1 b (by omega)
  omega
theorem own_nn {x : Int32} (h : 0 ≤ x.toInt) : ¬ x < 0 := fun q => by
  have := Int32.lt_iff_toInt_lt.mp q
  have h0 : (0 : Int32).toInt = 0 := by decide
  omega
theorem own_cl {x : Int32} (h : 0 ≤ x.toInt) : x.toNatClampNeg = x.toInt.toNat := rfl
theorem own_add16 (off : Int32) (h : 0 ≤ off.toInt ∧ off.toInt < 7) : (off + (16 : Int32)).toInt = off.toInt + 16 := by
  have a := c_iadd off 16
  have r := rng32 (off + (16 : Int32))
  have h0 : (16 : Int32).toInt = 16 := by decide
  omega
theorem own_end {off j : Int32} {i : Nat} (h : 0 ≤ off.toInt ∧ off.toInt < 7) (hi : i + 0 = 16) (hj : j.toInt = off.toInt + i) : ¬ j < off + (16 : Int32) := fun q => by
  have := Int32.lt_iff_toInt_lt.mp q
  rw [own_add16 off h] at this
  omega
theorem own_on {off j : Int32} {i k : Nat} (h : 0 ≤ off.toInt ∧ off.toInt < 7) (hi : i + (k + 1) = 16) (hj : j.toInt = off.toInt + i) : j < off + (16 : Int32) := by
  rw [Int32.lt_iff_toInt_lt, own_add16 off h]
  omega
theorem own_inc {off j : Int32} {i k : Nat} (h : 0 ≤ off.toInt ∧ off.toInt < 7) (hi : i + (k + 1) = 16) (hj : j.toInt = off.toInt + i) : (j + (1 : Int32)).toInt = off.toInt + (i + 1 : Nat) := by
  have a := c_iadd j 1
  have r := rng32 (j + (1 : Int32))
  have h0 : (1 : Int32).toInt = 1 := by decide
  omega
def own_any (f : Nat → Int32) (o : Nat) : Bool := (List.range 16).any (fun i => f (o + i) != 0)
theorem own_any0 {f : Nat → Int32} {o i : Nat} (hi : i + 0 = 16) (h : ∀ i', i' < i → f (o + i') = 0) : ¬ own_any f o = true := by
  simp only [own_any, List.any_eq_true, List.mem_range, not_exists, not_and]
  intro x hx
  simp [h x (by omega)]
theorem own_any1 {f : Nat → Int32} {o i k : Nat} (hi : i + (k + 1) = 16) (h : ¬ f (o + i) = 0) : own_any f o = true := by
  simp only [own_any, List.any_eq_true, List.mem_range]
  exact ⟨i, by omega, by simp [h]⟩
theorem own_byte (x : Int32) : x.toInt8.toInt32.toInt8.toInt32 = x.toInt8.toInt32 := by simp
def own_g (p1 p2 : Nat) (b1 b2 : Int32) (i : Nat) : Int32 := if i = p2 then b2 else if i = p1 then b1 else 0
theorem own_list (p1 p2 : Nat) (b1 b2 : Int32) (h1 : p1 < 22) (h2 : p2 < 22) : ∀ i, i < 22 → (((List.replicate 22 (.int (0 : Int32)) : List Value).set p1 (.int b1)).set p2 (.int b2))[i]? = some (.int (own_g p1 p2 b1 b2 i)) := by
  intro i hi
  rw [List.getElem?_set, List.getElem?_set]
  simp only [own_g, List.length_set, List.length_replicate, List.getElem?_replicate]
  by_cases e2 : p2 = i
  · subst e2; simp [h2]
  · by_cases e1 : p1 = i
    · subst e1; simp [h1, e2, Ne.symm e2]
    · simp [hi, e1, e2, Ne.symm e1, Ne.symm e2]
theorem own_law (p1 p2 off b1 b2 : Int32) (h1 : 0 ≤ p1.toInt ∧ p1.toInt < 22) (h2 : 0 ≤ p2.toInt ∧ p2.toInt < 22) (ho : 0 ≤ off.toInt ∧ off.toInt < 7) :
    own_any (own_g p1.toNatClampNeg p2.toNatClampNeg b1 b2) off.toInt.toNat = true ↔ (((¬ p2 < off ∧ p2 < off + (16 : Int32)) ∧ ¬ b2 = 0) ∨ (¬ p1 = p2 ∧ (¬ p1 < off ∧ p1 < off + (16 : Int32)) ∧ ¬ b1 = 0)) := by
  simp only [own_any, List.any_eq_true, List.mem_range, bne_iff_ne, ne_eq, own_g, Int32.lt_iff_toInt_lt, own_add16 off ho, ← Int32.toInt_inj (x := p1), own_cl h1.1, own_cl h2.1]
  constructor
  · rintro ⟨i, hi, hq⟩
    split at hq
    · rename_i e; exact Or.inl ⟨by omega, hq⟩
    · split at hq
      · rename_i e1 e2; exact Or.inr ⟨by omega, by omega, hq⟩
      · exact absurd rfl hq
  · rintro (⟨⟨a, b⟩, c⟩ | ⟨d, ⟨a, b⟩, c⟩)
    · exact ⟨p2.toInt.toNat - off.toInt.toNat, by omega, by rw [if_pos (by omega)]; exact c⟩
    · exact ⟨p1.toInt.toNat - off.toInt.toNat, by omega, by rw [if_neg (by omega), if_pos (by omega)]; exact c⟩
theorem d1_0 : decode method_2_code 0 = .ok (.iload_n 0, 1) := by decide +kernel
theorem d1_1 : decode method_2_code 1 = .ok (.iload_n 1, 1) := by decide +kernel
theorem d1_2 : decode method_2_code 2 = .ok (.if_icmp .lt 15, 3) := by decide +kernel
theorem d1_17 : decode method_2_code 17 = .ok (.iconst 0, 1) := by decide +kernel
theorem d1_18 : decode method_2_code 18 = .ok (.ireturn, 1) := by decide +kernel
theorem d1_5 : decode method_2_code 5 = .ok (.iload_n 0, 1) := by decide +kernel
theorem d1_6 : decode method_2_code 6 = .ok (.iload_n 1, 1) := by decide +kernel
theorem d1_7 : decode method_2_code 7 = .ok (.bipush 16, 2) := by decide +kernel
theorem d1_9 : decode method_2_code 9 = .ok (.iadd, 1) := by decide +kernel
theorem d1_10 : decode method_2_code 10 = .ok (.if_icmp .ge 7, 3) := by decide +kernel
theorem d1_13 : decode method_2_code 13 = .ok (.iconst 1, 1) := by decide +kernel
theorem d1_14 : decode method_2_code 14 = .ok (.goto 4, 3) := by decide +kernel
theorem ef_rm1 (m : MethodId) (p0 : Int32) (off : Int32) : entryFrame m #[(.int p0), (.int off)] 2 = mkF m 0 #[.val (.int p0), .val (.int off)] [] := by first | (simp [entryFrame, mkF, argsToLocals, Value.category]; done) | rfl
theorem pn0 : plainName "com/example/traceloom/traceloom/smf/StckeIsSetPinLaw" = true := by first | (simp [plainName, overriddenIn]; done) | decide +kernel
set_option maxRecDepth 65536 in
set_option maxHeartbeats 40000000 in
theorem rm1 (l : Launch) (Z : State) (a0 : Array Value) (hw : ∀ d ∈ tables_1, d.before a0 Z = true) (p0 : Int32) (off : Int32) (h0 : Heap) (n0 : Nat) (Z0 : n0 ≤ h0.size) :
    Own.Ct l (⟨"com/example/traceloom/traceloom/smf/StckeIsSetPinLaw", "inWindow", "(II)Z"⟩ : MethodName) method_2_code 2 (some .boolean) [] ({ frames := 0, cells := 0, slots := 0, locals := 0 } : Room) Z #[(.int p0), (.int off)] h0 (fun rV hP lC => rV = some (.int (if (¬ p0 < off ∧ p0 < off + (16 : Int32)) then (1 : Int32) else 0)) ∧ Fr n0 lC ∧ hP = h0) := by
  refine Own.enter (plainFor_of_name pn0) ?_
  intro p e s m below meth cc s₁ hx hby hml hown hnm hret hk hZ X0 e0
  have N0 := Fr.nil n0
  refine Own.start (ef_rm1 m p0 off) ?_
  refine Own.iloadN X0 hx (pc := 0) (hb hby d1_0) rfl ?_
  refine Own.iloadN X0 hx (pc := 1) (hb hby d1_1) rfl ?_
  by_cases c1 : p0 < off
  · refine Own.icmpYes X0 hx (pc := 2) 17 (hb hby d1_2) (XT.ii_lt_t c1) (by decide) (by decide) ?_
    refine Own.iconst X0 hx (pc := 17) (0 : Int32) (hb hby d1_17) (by decide) ?_
    exact Own.ireturn X0 hx hk hret (by simp) rfl (hb hby d1_18) e0 ⟨by simp [c1], N0, rfl⟩ (by decide) (by decide)
  · refine Own.icmpNo X0 hx (pc := 2) (hb hby d1_2) (XT.ii_lt_f c1) ?_
    refine Own.iloadN X0 hx (pc := 5) (hb hby d1_5) rfl ?_
    refine Own.iloadN X0 hx (pc := 6) (hb hby d1_6) rfl ?_
    refine Own.bipush X0 hx (pc := 7) (16 : Int32) (hb hby d1_7) (by decide) ?_
    refine Own.iadd X0 hx (pc := 9) (hb hby d1_9) ?_
    by_cases c2 : p0 < (off + (16 : Int32))
    · refine Own.icmpNo X0 hx (pc := 10) (hb hby d1_10) (XT.ii_ge_f c2) ?_
      refine Own.iconst X0 hx (pc := 13) (1 : Int32) (hb hby d1_13) (by decide) ?_
      refine Own.goto X0 hx (pc := 14) 18 (hb hby d1_14) (by decide) (by decide) ?_
      exact Own.ireturn X0 hx hk hret (by simp) rfl (hb hby d1_18) e0 ⟨by simp [c1, c2], N0, rfl⟩ (by decide) (by decide)
    · refine Own.icmpYes X0 hx (pc := 10) 17 (hb hby d1_10) (XT.ii_ge_t c2) (by decide) (by decide) ?_
      refine Own.iconst X0 hx (pc := 17) (0 : Int32) (hb hby d1_17) (by decide) ?_
      exact Own.ireturn X0 hx hk hret (by simp) rfl (hb hby d1_18) e0 ⟨by simp [c1, c2], N0, rfl⟩ (by decide) (by decide)
theorem d2_0 : decode prog_44_method_4_code 0 = .ok (.iload_n 1, 1) := by decide +kernel
theorem d2_1 : decode prog_44_method_4_code 1 = .ok (.istore_n 2, 1) := by decide +kernel
theorem d2_2 : decode prog_44_method_4_code 2 = .ok (.iload_n 2, 1) := by decide +kernel
theorem d2_3 : decode prog_44_method_4_code 3 = .ok (.iload_n 1, 1) := by decide +kernel
theorem d2_4 : decode prog_44_method_4_code 4 = .ok (.bipush 16, 2) := by decide +kernel
theorem d2_6 : decode prog_44_method_4_code 6 = .ok (.iadd, 1) := by decide +kernel
theorem d2_7 : decode prog_44_method_4_code 7 = .ok (.if_icmp .ge 17, 3) := by decide +kernel
theorem d2_24 : decode prog_44_method_4_code 24 = .ok (.iconst 0, 1) := by decide +kernel
theorem d2_25 : decode prog_44_method_4_code 25 = .ok (.ireturn, 1) := by decide +kernel
theorem d2_10 : decode prog_44_method_4_code 10 = .ok (.aload_n 0, 1) := by decide +kernel
theorem d2_11 : decode prog_44_method_4_code 11 = .ok (.iload_n 2, 1) := by decide +kernel
theorem d2_12 : decode prog_44_method_4_code 12 = .ok (.baload, 1) := by decide +kernel
theorem d2_13 : decode prog_44_method_4_code 13 = .ok (.ifCond .eq 5, 3) := by decide +kernel
theorem d2_18 : decode prog_44_method_4_code 18 = .ok (.iinc 2 1, 3) := by decide +kernel
theorem d2_21 : decode prog_44_method_4_code 21 = .ok (.goto (-19), 3) := by decide +kernel
theorem d2_16 : decode prog_44_method_4_code 16 = .ok (.iconst 1, 1) := by decide +kernel
theorem d2_17 : decode prog_44_method_4_code 17 = .ok (.ireturn, 1) := by decide +kernel
theorem ef_rm2 (m : MethodId) (b : Addr) (off : Int32) : entryFrame m #[(.ref b), (.int off)] 3 = mkF m 0 #[.val (.ref b), .val (.int off), .unset] [] := by first | (simp [entryFrame, mkF, argsToLocals, Value.category]; done) | rfl
theorem pn1 : plainName "com/example/traceloom/traceloom/smf/Stcke" = true := by first | (simp [plainName, overriddenIn]; done) | decide +kernel
set_option maxRecDepth 65536 in
set_option maxHeartbeats 40000000 in
theorem rm2 (l : Launch) (Z : State) (a0 : Array Value) (hw : ∀ d ∈ tables_1, d.before a0 Z = true) (b : Addr) (off : Int32) (vs : List Value) (f : Nat → Int32) (h0 : Heap) (n0 : Nat) (Z0 : n0 ≤ h0.size) (V_b : Own.VArr Z h0 b .byte vs) (ho : 0 ≤ off.toInt ∧ off.toInt < 7) (hv : ∀ i, i < 22 → vs[i]? = some (.int (f i))) :
    Own.Ct l (⟨"com/example/traceloom/traceloom/smf/Stcke", "isSet", "([BI)Z"⟩ : MethodName) prog_44_method_4_code 3 (some .boolean) [] ({ frames := 0, cells := 0, slots := 0, locals := 0 } : Room) Z #[(.ref b), (.int off)] h0 (fun rV hP lC => rV = some (.int (if own_any f off.toInt.toNat = true then (1 : Int32) else 0)) ∧ Fr n0 lC ∧ hP = h0) := by
  refine Own.enter (plainFor_of_name pn1) ?_
  intro p e s m below meth cc s₁ hx hby hml hown hnm hret hk hZ X0 e0
  have N0 := Fr.nil n0
  refine Own.start (ef_rm2 m b off) ?_
  refine Own.iloadN X0 hx (pc := 0) (hb hby d2_0) rfl ?_
  refine Own.istoreN X0 hx (pc := 1) #[.val (.ref b), .val (.int off), .val (.int off)] (hb hby d2_1) rfl ?_
  refine Own.induct (fun q : Nat × Int32 => s₁.setTop (mkF m 2 #[.val (.ref b), .val (.int off), .val (.int q.2)] [])) (fun k q => q.1 + k = 16 ∧ q.2.toInt = off.toInt + q.1 ∧ ∀ i', i' < q.1 → f (off.toInt.toNat + i') = 0) ?_ ?_ (n := 16) (a := (0, off)) ⟨rfl, by simp, by simp⟩
  · rintro ⟨i, j⟩ ⟨hi, hj, hz⟩
    dsimp only at hi hj hz
    show Own.Go p e below _ (s₁.setTop (mkF m 2 #[.val (.ref b), .val (.int off), .val (.int j)] []))
    refine Own.iloadN X0 hx (pc := 2) (hb hby d2_2) rfl ?_
    refine Own.iloadN X0 hx (pc := 3) (hb hby d2_3) rfl ?_
    refine Own.bipush X0 hx (pc := 4) (16 : Int32) (hb hby d2_4) (by decide) ?_
    refine Own.iadd X0 hx (pc := 6) (hb hby d2_6) ?_
    refine Own.icmpYes X0 hx (pc := 7) 24 (hb hby d2_7) (XT.ii_ge_t (own_end ho hi hj)) (by decide) (by decide) ?_
    refine Own.iconst X0 hx (pc := 24) (0 : Int32) (hb hby d2_24) (by decide) ?_
    exact Own.ireturn X0 hx hk hret (by simp) rfl (hb hby d2_25) e0 ⟨by rw [if_neg (own_any0 hi hz)], N0, rfl⟩ (by decide) (by decide)
  · rintro k ⟨i, j⟩ ⟨hi, hj, hz⟩ ih
    dsimp only at hi hj hz
    have hfj : f j.toNatClampNeg = f (off.toInt.toNat + i) := by rw [own_cl (by omega : 0 ≤ j.toInt)]; congr 1; omega
    show Own.Go p e below _ (s₁.setTop (mkF m 2 #[.val (.ref b), .val (.int off), .val (.int j)] []))
    refine Own.iloadN X0 hx (pc := 2) (hb hby d2_2) rfl ?_
    refine Own.iloadN X0 hx (pc := 3) (hb hby d2_3) rfl ?_
    refine Own.bipush X0 hx (pc := 4) (16 : Int32) (hb hby d2_4) (by decide) ?_
    refine Own.iadd X0 hx (pc := 6) (hb hby d2_6) ?_
    refine Own.icmpNo X0 hx (pc := 7) (hb hby d2_7) (XT.ii_ge_f (own_on ho hi hj)) ?_
    refine Own.aloadN X0 hx (pc := 10) (hb hby d2_10) rfl rfl ?_
    refine Own.iloadN X0 hx (pc := 11) (hb hby d2_11) rfl ?_
    refine Own.baload X0 hx hZ (pc := 12) e0 V_b (v := (.int (f j.toNatClampNeg))) j.toNatClampNeg (own_nn (by omega : 0 ≤ j.toInt)) rfl (hv _ (by rw [own_cl (by omega : 0 ≤ j.toInt)]; omega)) (hb hby d2_12) ?_
    by_cases c1 : (f j.toNatClampNeg) = (0 : Int32)
    · refine Own.ifYes X0 hx (pc := 13) 18 (hb hby d2_13) (XT.i0_eq_t c1) (by decide) (by decide) ?_
      refine Own.iincV X0 hx (pc := 18) (1 : Int32) (j + (1 : Int32)) #[.val (.ref b), .val (.int off), .val (.int (j + (1 : Int32)))] (hb hby d2_18) (by decide) rfl rfl rfl ?_
      refine Own.goto X0 hx (pc := 21) 2 (hb hby d2_21) (by decide) (by decide) ?_
      exact ih (i + 1, _) ⟨by omega, own_inc ho hi hj, fun i' q => by rcases Nat.lt_succ_iff_lt_or_eq.mp q with q | q; exact hz i' q; rw [q, ← hfj]; exact c1⟩
    · refine Own.ifNo X0 hx (pc := 13) (hb hby d2_13) (XT.i0_eq_f c1) ?_
      refine Own.iconst X0 hx (pc := 16) (1 : Int32) (hb hby d2_16) (by decide) ?_
      exact Own.ireturn X0 hx hk hret (by simp) rfl (hb hby d2_17) e0 ⟨by rw [if_pos (own_any1 hi (fun q => c1 (hfj.trans q)))], N0, rfl⟩ (by decide) (by decide)
theorem pd2 : parseMethodDescriptor "(II)Z" = some ⟨[.int, .int], some .boolean⟩ := by decide +kernel
theorem pd3 : parseMethodDescriptor "([BI)Z" = some ⟨[(.array .byte), .int], some .boolean⟩ := by decide +kernel
theorem ef_law (m : MethodId) (o : Int32) (q1 : Int32) (v1 : Int32) (q2 : Int32) (v2 : Int32) : entryFrame m #[(.int o), (.int q1), (.int v1), (.int q2), (.int v2)] maxLocals = mkF m 0 #[.val (.int o), .val (.int q1), .val (.int v1), .val (.int q2), .val (.int v2), .unset, .unset, .unset, .unset, .unset, .unset, .unset] [] := by first | (simp [entryFrame, mkF, argsToLocals, Value.category, maxLocals]; done) | rfl
set_option maxRecDepth 65536 in
set_option maxHeartbeats 400000000 in
theorem rm0 (l : Launch) (Z : State) (a0 : Array Value) (hw : ∀ d ∈ tables_1, d.before a0 Z = true) (o : Int32) (q1 : Int32) (v1 : Int32) (q2 : Int32) (v2 : Int32) (h0 : Heap) (n0 : Nat) (Z0 : n0 ≤ h0.size) :
    Own.Ct l x code maxLocals ret tables_1 room_1 Z #[(.int o), (.int q1), (.int v1), (.int q2), (.int v2)] h0 (fun v _ L => v = some (.int 1) ∧ Fr n0 L) := by
  refine Own.enter (plainFor_of_name pn0) ?_
  intro p e s m below meth cc s₁ hx hby hml0 hown hnm hret hk hZ X0 e0
  have hml : cc.maxLocals = 12 := hml0
  have N0 := Fr.nil n0
  refine Own.start (ef_law m o q1 v1 q2 v2) ?_
  refine Own.iloadN X0 hx (pc := 0) (hb hby at_0) rfl ?_
  refine Own.ldcI X0 hx hZ (pc := 1) hown (Wd hw 0 rfl) (hb hby at_1) ?_
  refine Own.iand X0 hx (pc := 3) (hb hby at_3) ?_
  refine Own.bipush X0 hx (pc := 4) (7 : Int32) (hb hby at_4) (by decide) ?_
  refine Own.irem X0 hx (pc := 6) (hb hby at_6) (by decide) ?_
  generalize qoff1 : ((o &&& (2147483647 : Int32)) % (7 : Int32)) = off1
  have hoff := own_rem o (7 : Int32) 7 (by decide) (by decide)
  rw [qoff1] at hoff
  refine Own.istore X0 hx (pc := 7) #[.val (.int o), .val (.int q1), .val (.int v1), .val (.int q2), .val (.int v2), .val (.int off1), .unset, .unset, .unset, .unset, .unset, .unset] (hb hby at_7) rfl ?_
  refine Own.iloadN X0 hx (pc := 9) (hb hby at_9) rfl ?_
  refine Own.ldcI X0 hx hZ (pc := 10) hown (Wd hw 0 rfl) (hb hby at_10) ?_
  refine Own.iand X0 hx (pc := 12) (hb hby at_12) ?_
  refine Own.bipush X0 hx (pc := 13) (22 : Int32) (hb hby at_13) (by decide) ?_
  refine Own.irem X0 hx (pc := 15) (hb hby at_15) (by decide) ?_
  generalize qpa2 : ((q1 &&& (2147483647 : Int32)) % (22 : Int32)) = pa2
  have hpa := own_rem q1 (22 : Int32) 22 (by decide) (by decide)
  rw [qpa2] at hpa
  refine Own.istore X0 hx (pc := 16) #[.val (.int o), .val (.int q1), .val (.int v1), .val (.int q2), .val (.int v2), .val (.int off1), .val (.int pa2), .unset, .unset, .unset, .unset, .unset] (hb hby at_16) rfl ?_
  refine Own.iloadN X0 hx (pc := 18) (hb hby at_18) rfl ?_
  refine Own.ldcI X0 hx hZ (pc := 19) hown (Wd hw 0 rfl) (hb hby at_19) ?_
  refine Own.iand X0 hx (pc := 21) (hb hby at_21) ?_
  refine Own.bipush X0 hx (pc := 22) (22 : Int32) (hb hby at_22) (by decide) ?_
  refine Own.irem X0 hx (pc := 24) (hb hby at_24) (by decide) ?_
  generalize qpb3 : ((q2 &&& (2147483647 : Int32)) % (22 : Int32)) = pb3
  have hpb := own_rem q2 (22 : Int32) 22 (by decide) (by decide)
  rw [qpb3] at hpb
  refine Own.istore X0 hx (pc := 25) #[.val (.int o), .val (.int q1), .val (.int v1), .val (.int q2), .val (.int v2), .val (.int off1), .val (.int pa2), .val (.int pb3), .unset, .unset, .unset, .unset] (hb hby at_25) rfl ?_
  refine Own.iloadN X0 hx (pc := 27) (hb hby at_27) rfl ?_
  refine Own.i2b X0 hx (pc := 28) (hb hby at_28) ?_
  generalize qba4 : v1.toInt8.toInt32 = ba4
  have eba4 : ba4.toInt8.toInt32 = ba4 := by rw [← qba4]; exact own_byte _
  refine Own.istore X0 hx (pc := 29) #[.val (.int o), .val (.int q1), .val (.int v1), .val (.int q2), .val (.int v2), .val (.int off1), .val (.int pa2), .val (.int pb3), .val (.int ba4), .unset, .unset, .unset] (hb hby at_29) rfl ?_
  refine Own.iload X0 hx (pc := 31) (hb hby at_31) rfl ?_
  refine Own.i2b X0 hx (pc := 33) (hb hby at_33) ?_
  generalize qbb5 : v2.toInt8.toInt32 = bb5
  have ebb5 : bb5.toInt8.toInt32 = bb5 := by rw [← qbb5]; exact own_byte _
  refine Own.istore X0 hx (pc := 34) #[.val (.int o), .val (.int q1), .val (.int v1), .val (.int q2), .val (.int v2), .val (.int off1), .val (.int pa2), .val (.int pb3), .val (.int ba4), .val (.int bb5), .unset, .unset] (hb hby at_34) rfl ?_
  refine Own.bipush X0 hx (pc := 36) (22 : Int32) (hb hby at_36) (by decide) ?_
  refine Own.newarr X0 hx hZ (pc := 38) (aty := .byte) (Wd hw 1 rfl) e0 (hb hby at_38) (by decide) 22 22 (by decide) (by decide) (by decide) (by decide) (by decide) ?_
  intro T6 h6 b6 g6 X6 e6 Ex6 V_b6
  have ge_b6 : n0 ≤ b6 := g6 ▸ Z0
  have sz6 : n0 ≤ h6.size := Nat.le_trans Z0 Ex6.1
  replace V_b6 : Own.VArr Z h6 b6 .byte (List.replicate 22 (.int (0 : Int32))) := V_b6
  refine Own.astore X6 hx (pc := 40) #[.val (.int o), .val (.int q1), .val (.int v1), .val (.int q2), .val (.int v2), .val (.int off1), .val (.int pa2), .val (.int pb3), .val (.int ba4), .val (.int bb5), .val (.ref b6), .unset] (hb hby at_40) rfl rfl ?_
  refine Own.aload X6 hx (pc := 42) (hb hby at_42) rfl rfl ?_
  refine Own.iload X6 hx (pc := 44) (hb hby at_44) rfl ?_
  refine Own.iload X6 hx (pc := 46) (hb hby at_46) rfl ?_
  refine Own.bastore X6 hx hZ (pc := 48) e6 V_b6 pa2.toNatClampNeg (own_nn hpa.1) rfl (by simp only [List.length_set, List.length_replicate]; rw [own_cl hpa.1]; omega) N0 ge_b6 (hb hby at_48) ?_
  intro T7 h7 X7 e7 W7 N7 V_b6
  have sz7 : n0 ≤ h7.size := Nat.le_trans sz6 (Nat.le_of_eq (Wr.size W7).symm)
  refine Own.aload X7 hx (pc := 49) (hb hby at_49) rfl rfl ?_
  refine Own.iload X7 hx (pc := 51) (hb hby at_51) rfl ?_
  refine Own.iload X7 hx (pc := 53) (hb hby at_53) rfl ?_
  refine Own.bastore X7 hx hZ (pc := 55) e7 V_b6 pb3.toNatClampNeg (own_nn hpb.1) rfl (by simp only [List.length_set, List.length_replicate]; rw [own_cl hpb.1]; omega) N7 ge_b6 (hb hby at_55) ?_
  intro T8 h8 X8 e8 W8 N8 V_b6
  have sz8 : n0 ≤ h8.size := Nat.le_trans sz7 (Nat.le_of_eq (Wr.size W8).symm)
  refine Own.iload X8 hx (pc := 56) (hb hby at_56) rfl ?_
  refine Own.iload X8 hx (pc := 58) (hb hby at_58) rfl ?_
  refine Own.callStatic X8 hx hZ (pc := 60) (y := (⟨"com/example/traceloom/traceloom/smf/StckeIsSetPinLaw", "inWindow", "(II)Z"⟩ : MethodName)) hown (Wd hw 2 rfl) (Wd hw 3 rfl) (Wd hw 4 rfl) (Wd hw 5 rfl) (by decide) 0 [(.int pb3), (.int off1)] [] (rm1 l Z a0 hw pb3 off1 h8 n0 sz8 ) (by decide) (by decide) e8 (by rw [hml]; rfl) pd2 rfl rfl (Nat.le_of_eq rfl) (hb hby at_60) (by decide) (by decide) ?_
  intro T9 L9 v9 X9 hQ9
  obtain ⟨rfl, Nq9, e9⟩ := hQ9
  have N9 := Fr.app N8 Nq9
  show Own.Go p e below _ (T9.setTop (mkF m 63 #[.val (.int o), .val (.int q1), .val (.int v1), .val (.int q2), .val (.int v2), .val (.int off1), .val (.int pa2), .val (.int pb3), .val (.int ba4), .val (.int bb5), .val (.ref b6), .unset] [(.int (if (¬ pb3 < off1 ∧ pb3 < off1 + (16 : Int32)) then (1 : Int32) else 0))]))
  by_cases c10 : (¬ pb3 < off1 ∧ pb3 < off1 + (16 : Int32))
  · rw [if_pos c10]
    refine Own.ifNo X9 hx (pc := 63) (hb hby at_63) (by decide) ?_
    refine Own.iload X9 hx (pc := 66) (hb hby at_66) rfl ?_
    by_cases c11 : bb5 = (0 : Int32)
    · refine Own.ifNo X9 hx (pc := 68) (hb hby at_68) (XT.i0_ne_f c11) ?_
      refine Own.iload X9 hx (pc := 71) (hb hby at_71) rfl ?_
      refine Own.iload X9 hx (pc := 73) (hb hby at_73) rfl ?_
      by_cases c12 : pa2 = pb3
      · refine Own.icmpYes X9 hx (pc := 75) 97 (hb hby at_75) (XT.ii_eq_t c12) (by decide) (by decide) ?_
        refine Own.iconst X9 hx (pc := 97) (0 : Int32) (hb hby at_97) (by decide) ?_
        refine Own.istore X9 hx (pc := 98) #[.val (.int o), .val (.int q1), .val (.int v1), .val (.int q2), .val (.int v2), .val (.int off1), .val (.int pa2), .val (.int pb3), .val (.int ba4), .val (.int bb5), .val (.ref b6), .val (.int (0 : Int32))] (hb hby at_98) rfl ?_
        refine Own.aload X9 hx (pc := 100) (hb hby at_100) rfl rfl ?_
        refine Own.iload X9 hx (pc := 102) (hb hby at_102) rfl ?_
        refine Own.callStatic X9 hx hZ (pc := 104) (y := (⟨"com/example/traceloom/traceloom/smf/Stcke", "isSet", "([BI)Z"⟩ : MethodName)) hown (Wd hw 6 rfl) (Wd hw 7 rfl) (Wd hw 8 rfl) (Wd hw 9 rfl) (by decide) 0 [(.ref b6), (.int off1)] [] (rm2 l Z a0 hw b6 off1 (((List.replicate 22 (.int (0 : Int32))).set pa2.toNatClampNeg (.int ba4.toInt8.toInt32)).set pb3.toNatClampNeg (.int bb5.toInt8.toInt32)) (own_g pa2.toNatClampNeg pb3.toNatClampNeg ba4.toInt8.toInt32 bb5.toInt8.toInt32) h8 n0 sz8 V_b6 hoff (own_list _ _ _ _ (by rw [own_cl hpa.1]; omega) (by rw [own_cl hpb.1]; omega))) (by decide) (by decide) e9 (by rw [hml]; rfl) pd3 rfl rfl (Nat.le_of_eq rfl) (hb hby at_104) (by decide) (by decide) ?_
        intro T13 L13 v13 X13 hQ13
        obtain ⟨rfl, Nq13, e13⟩ := hQ13
        have N13 := Fr.app N9 Nq13
        show Own.Go p e below _ (T13.setTop (mkF m 107 #[.val (.int o), .val (.int q1), .val (.int v1), .val (.int q2), .val (.int v2), .val (.int off1), .val (.int pa2), .val (.int pb3), .val (.int ba4), .val (.int bb5), .val (.ref b6), .val (.int (0 : Int32))] [(.int (if own_any (own_g pa2.toNatClampNeg pb3.toNatClampNeg ba4.toInt8.toInt32 bb5.toInt8.toInt32) off1.toInt.toNat = true then (1 : Int32) else 0))]))
        refine Own.iload X13 hx (pc := 107) (hb hby at_107) rfl ?_
        by_cases c14 : own_any (own_g pa2.toNatClampNeg pb3.toNatClampNeg ba4.toInt8.toInt32 bb5.toInt8.toInt32) off1.toInt.toNat = true
        · rw [if_pos c14]
          refine Own.icmpYes X13 hx (pc := 109) 116 (hb hby at_109) (by decide) (by decide) (by decide) ?_
          refine Own.iconst X13 hx (pc := 116) (0 : Int32) (hb hby at_116) (by decide) ?_
          have A := own_law pa2 pb3 off1 ba4.toInt8.toInt32 bb5.toInt8.toInt32 hpa hpb hoff
          generalize own_any (own_g pa2.toNatClampNeg pb3.toNatClampNeg ba4.toInt8.toInt32 bb5.toInt8.toInt32) off1.toInt.toNat = G at A c14
          exact absurd A (by simp only [eba4, ebb5, c10, c11, c12, c14, not_true_eq_false, not_false_eq_true, and_true, and_false, true_and, false_and, or_true, true_or, or_false, false_or, iff_true, iff_false, true_iff, false_iff, and_self, or_self] <;> decide)
        · rw [if_neg c14]
          refine Own.icmpNo X13 hx (pc := 109) (hb hby at_109) (by decide) ?_
          refine Own.iconst X13 hx (pc := 112) (1 : Int32) (hb hby at_112) (by decide) ?_
          refine Own.goto X13 hx (pc := 113) 117 (hb hby at_113) (by decide) (by decide) ?_
          exact Own.ireturn X13 hx hk hret (by simp) rfl (hb hby at_117) e13 ⟨rfl, N13⟩ (by decide) (by decide)
      · refine Own.icmpNo X9 hx (pc := 75) (hb hby at_75) (XT.ii_eq_f c12) ?_
        refine Own.iload X9 hx (pc := 78) (hb hby at_78) rfl ?_
        refine Own.iload X9 hx (pc := 80) (hb hby at_80) rfl ?_
        refine Own.callStatic X9 hx hZ (pc := 82) (y := (⟨"com/example/traceloom/traceloom/smf/StckeIsSetPinLaw", "inWindow", "(II)Z"⟩ : MethodName)) hown (Wd hw 2 rfl) (Wd hw 3 rfl) (Wd hw 4 rfl) (Wd hw 5 rfl) (by decide) 0 [(.int pa2), (.int off1)] [] (rm1 l Z a0 hw pa2 off1 h8 n0 sz8 ) (by decide) (by decide) e9 (by rw [hml]; rfl) pd2 rfl rfl (Nat.le_of_eq rfl) (hb hby at_82) (by decide) (by decide) ?_
        intro T15 L15 v15 X15 hQ15
        obtain ⟨rfl, Nq15, e15⟩ := hQ15
        have N15 := Fr.app N9 Nq15
        show Own.Go p e below _ (T15.setTop (mkF m 85 #[.val (.int o), .val (.int q1), .val (.int v1), .val (.int q2), .val (.int v2), .val (.int off1), .val (.int pa2), .val (.int pb3), .val (.int ba4), .val (.int bb5), .val (.ref b6), .unset] [(.int (if (¬ pa2 < off1 ∧ pa2 < off1 + (16 : Int32)) then (1 : Int32) else 0))]))
        by_cases c16 : (¬ pa2 < off1 ∧ pa2 < off1 + (16 : Int32))
        · rw [if_pos c16]
          refine Own.ifNo X15 hx (pc := 85) (hb hby at_85) (by decide) ?_
          refine Own.iload X15 hx (pc := 88) (hb hby at_88) rfl ?_
          by_cases c17 : ba4 = (0 : Int32)
          · refine Own.ifYes X15 hx (pc := 90) 97 (hb hby at_90) (XT.i0_eq_t c17) (by decide) (by decide) ?_
            refine Own.iconst X15 hx (pc := 97) (0 : Int32) (hb hby at_97) (by decide) ?_
            refine Own.istore X15 hx (pc := 98) #[.val (.int o), .val (.int q1), .val (.int v1), .val (.int q2), .val (.int v2), .val (.int off1), .val (.int pa2), .val (.int pb3), .val (.int ba4), .val (.int bb5), .val (.ref b6), .val (.int (0 : Int32))] (hb hby at_98) rfl ?_
            refine Own.aload X15 hx (pc := 100) (hb hby at_100) rfl rfl ?_
            refine Own.iload X15 hx (pc := 102) (hb hby at_102) rfl ?_
            refine Own.callStatic X15 hx hZ (pc := 104) (y := (⟨"com/example/traceloom/traceloom/smf/Stcke", "isSet", "([BI)Z"⟩ : MethodName)) hown (Wd hw 6 rfl) (Wd hw 7 rfl) (Wd hw 8 rfl) (Wd hw 9 rfl) (by decide) 0 [(.ref b6), (.int off1)] [] (rm2 l Z a0 hw b6 off1 (((List.replicate 22 (.int (0 : Int32))).set pa2.toNatClampNeg (.int ba4.toInt8.toInt32)).set pb3.toNatClampNeg (.int bb5.toInt8.toInt32)) (own_g pa2.toNatClampNeg pb3.toNatClampNeg ba4.toInt8.toInt32 bb5.toInt8.toInt32) h8 n0 sz8 V_b6 hoff (own_list _ _ _ _ (by rw [own_cl hpa.1]; omega) (by rw [own_cl hpb.1]; omega))) (by decide) (by decide) e15 (by rw [hml]; rfl) pd3 rfl rfl (Nat.le_of_eq rfl) (hb hby at_104) (by decide) (by decide) ?_
            intro T18 L18 v18 X18 hQ18
            obtain ⟨rfl, Nq18, e18⟩ := hQ18
            have N18 := Fr.app N15 Nq18
            show Own.Go p e below _ (T18.setTop (mkF m 107 #[.val (.int o), .val (.int q1), .val (.int v1), .val (.int q2), .val (.int v2), .val (.int off1), .val (.int pa2), .val (.int pb3), .val (.int ba4), .val (.int bb5), .val (.ref b6), .val (.int (0 : Int32))] [(.int (if own_any (own_g pa2.toNatClampNeg pb3.toNatClampNeg ba4.toInt8.toInt32 bb5.toInt8.toInt32) off1.toInt.toNat = true then (1 : Int32) else 0))]))
            refine Own.iload X18 hx (pc := 107) (hb hby at_107) rfl ?_
            by_cases c19 : own_any (own_g pa2.toNatClampNeg pb3.toNatClampNeg ba4.toInt8.toInt32 bb5.toInt8.toInt32) off1.toInt.toNat = true
            · rw [if_pos c19]
              refine Own.icmpYes X18 hx (pc := 109) 116 (hb hby at_109) (by decide) (by decide) (by decide) ?_
              refine Own.iconst X18 hx (pc := 116) (0 : Int32) (hb hby at_116) (by decide) ?_
              have A := own_law pa2 pb3 off1 ba4.toInt8.toInt32 bb5.toInt8.toInt32 hpa hpb hoff
              generalize own_any (own_g pa2.toNatClampNeg pb3.toNatClampNeg ba4.toInt8.toInt32 bb5.toInt8.toInt32) off1.toInt.toNat = G at A c19
              exact absurd A (by simp only [eba4, ebb5, c10, c11, c12, c16, c17, c19, not_true_eq_false, not_false_eq_true, and_true, and_false, true_and, false_and, or_true, true_or, or_false, false_or, iff_true, iff_false, true_iff, false_iff, and_self, or_self] <;> decide)
            · rw [if_neg c19]
              refine Own.icmpNo X18 hx (pc := 109) (hb hby at_109) (by decide) ?_
              refine Own.iconst X18 hx (pc := 112) (1 : Int32) (hb hby at_112) (by decide) ?_
              refine Own.goto X18 hx (pc := 113) 117 (hb hby at_113) (by decide) (by decide) ?_
              exact Own.ireturn X18 hx hk hret (by simp) rfl (hb hby at_117) e18 ⟨rfl, N18⟩ (by decide) (by decide)
          · refine Own.ifNo X15 hx (pc := 90) (hb hby at_90) (XT.i0_eq_f c17) ?_
            refine Own.iconst X15 hx (pc := 93) (1 : Int32) (hb hby at_93) (by decide) ?_
            refine Own.goto X15 hx (pc := 94) 98 (hb hby at_94) (by decide) (by decide) ?_
            refine Own.istore X15 hx (pc := 98) #[.val (.int o), .val (.int q1), .val (.int v1), .val (.int q2), .val (.int v2), .val (.int off1), .val (.int pa2), .val (.int pb3), .val (.int ba4), .val (.int bb5), .val (.ref b6), .val (.int (1 : Int32))] (hb hby at_98) rfl ?_
            refine Own.aload X15 hx (pc := 100) (hb hby at_100) rfl rfl ?_
            refine Own.iload X15 hx (pc := 102) (hb hby at_102) rfl ?_
            refine Own.callStatic X15 hx hZ (pc := 104) (y := (⟨"com/example/traceloom/traceloom/smf/Stcke", "isSet", "([BI)Z"⟩ : MethodName)) hown (Wd hw 6 rfl) (Wd hw 7 rfl) (Wd hw 8 rfl) (Wd hw 9 rfl) (by decide) 0 [(.ref b6), (.int off1)] [] (rm2 l Z a0 hw b6 off1 (((List.replicate 22 (.int (0 : Int32))).set pa2.toNatClampNeg (.int ba4.toInt8.toInt32)).set pb3.toNatClampNeg (.int bb5.toInt8.toInt32)) (own_g pa2.toNatClampNeg pb3.toNatClampNeg ba4.toInt8.toInt32 bb5.toInt8.toInt32) h8 n0 sz8 V_b6 hoff (own_list _ _ _ _ (by rw [own_cl hpa.1]; omega) (by rw [own_cl hpb.1]; omega))) (by decide) (by decide) e15 (by rw [hml]; rfl) pd3 rfl rfl (Nat.le_of_eq rfl) (hb hby at_104) (by decide) (by decide) ?_
            intro T20 L20 v20 X20 hQ20
            obtain ⟨rfl, Nq20, e20⟩ := hQ20
            have N20 := Fr.app N15 Nq20
            show Own.Go p e below _ (T20.setTop (mkF m 107 #[.val (.int o), .val (.int q1), .val (.int v1), .val (.int q2), .val (.int v2), .val (.int off1), .val (.int pa2), .val (.int pb3), .val (.int ba4), .val (.int bb5), .val (.ref b6), .val (.int (1 : Int32))] [(.int (if own_any (own_g pa2.toNatClampNeg pb3.toNatClampNeg ba4.toInt8.toInt32 bb5.toInt8.toInt32) off1.toInt.toNat = true then (1 : Int32) else 0))]))
            refine Own.iload X20 hx (pc := 107) (hb hby at_107) rfl ?_
            by_cases c21 : own_any (own_g pa2.toNatClampNeg pb3.toNatClampNeg ba4.toInt8.toInt32 bb5.toInt8.toInt32) off1.toInt.toNat = true
            · rw [if_pos c21]
              refine Own.icmpNo X20 hx (pc := 109) (hb hby at_109) (by decide) ?_
              refine Own.iconst X20 hx (pc := 112) (1 : Int32) (hb hby at_112) (by decide) ?_
              refine Own.goto X20 hx (pc := 113) 117 (hb hby at_113) (by decide) (by decide) ?_
              exact Own.ireturn X20 hx hk hret (by simp) rfl (hb hby at_117) e20 ⟨rfl, N20⟩ (by decide) (by decide)
            · rw [if_neg c21]
              refine Own.icmpYes X20 hx (pc := 109) 116 (hb hby at_109) (by decide) (by decide) (by decide) ?_
              refine Own.iconst X20 hx (pc := 116) (0 : Int32) (hb hby at_116) (by decide) ?_
              have A := own_law pa2 pb3 off1 ba4.toInt8.toInt32 bb5.toInt8.toInt32 hpa hpb hoff
              generalize own_any (own_g pa2.toNatClampNeg pb3.toNatClampNeg ba4.toInt8.toInt32 bb5.toInt8.toInt32) off1.toInt.toNat = G at A c21
              exact absurd A (by simp only [eba4, ebb5, c10, c11, c12, c16, c17, c21, not_true_eq_false, not_false_eq_true, and_true, and_false, true_and, false_and, or_true, true_or, or_false, false_or, iff_true, iff_false, true_iff, false_iff, and_self, or_self] <;> decide)
        · rw [if_neg c16]
          refine Own.ifYes X15 hx (pc := 85) 97 (hb hby at_85) (by decide) (by decide) (by decide) ?_
          refine Own.iconst X15 hx (pc := 97) (0 : Int32) (hb hby at_97) (by decide) ?_
          refine Own.istore X15 hx (pc := 98) #[.val (.int o), .val (.int q1), .val (.int v1), .val (.int q2), .val (.int v2), .val (.int off1), .val (.int pa2), .val (.int pb3), .val (.int ba4), .val (.int bb5), .val (.ref b6), .val (.int (0 : Int32))] (hb hby at_98) rfl ?_
          refine Own.aload X15 hx (pc := 100) (hb hby at_100) rfl rfl ?_
          refine Own.iload X15 hx (pc := 102) (hb hby at_102) rfl ?_
          refine Own.callStatic X15 hx hZ (pc := 104) (y := (⟨"com/example/traceloom/traceloom/smf/Stcke", "isSet", "([BI)Z"⟩ : MethodName)) hown (Wd hw 6 rfl) (Wd hw 7 rfl) (Wd hw 8 rfl) (Wd hw 9 rfl) (by decide) 0 [(.ref b6), (.int off1)] [] (rm2 l Z a0 hw b6 off1 (((List.replicate 22 (.int (0 : Int32))).set pa2.toNatClampNeg (.int ba4.toInt8.toInt32)).set pb3.toNatClampNeg (.int bb5.toInt8.toInt32)) (own_g pa2.toNatClampNeg pb3.toNatClampNeg ba4.toInt8.toInt32 bb5.toInt8.toInt32) h8 n0 sz8 V_b6 hoff (own_list _ _ _ _ (by rw [own_cl hpa.1]; omega) (by rw [own_cl hpb.1]; omega))) (by decide) (by decide) e15 (by rw [hml]; rfl) pd3 rfl rfl (Nat.le_of_eq rfl) (hb hby at_104) (by decide) (by decide) ?_
          intro T22 L22 v22 X22 hQ22
          obtain ⟨rfl, Nq22, e22⟩ := hQ22
          have N22 := Fr.app N15 Nq22
          show Own.Go p e below _ (T22.setTop (mkF m 107 #[.val (.int o), .val (.int q1), .val (.int v1), .val (.int q2), .val (.int v2), .val (.int off1), .val (.int pa2), .val (.int pb3), .val (.int ba4), .val (.int bb5), .val (.ref b6), .val (.int (0 : Int32))] [(.int (if own_any (own_g pa2.toNatClampNeg pb3.toNatClampNeg ba4.toInt8.toInt32 bb5.toInt8.toInt32) off1.toInt.toNat = true then (1 : Int32) else 0))]))
          refine Own.iload X22 hx (pc := 107) (hb hby at_107) rfl ?_
          by_cases c23 : own_any (own_g pa2.toNatClampNeg pb3.toNatClampNeg ba4.toInt8.toInt32 bb5.toInt8.toInt32) off1.toInt.toNat = true
          · rw [if_pos c23]
            refine Own.icmpYes X22 hx (pc := 109) 116 (hb hby at_109) (by decide) (by decide) (by decide) ?_
            refine Own.iconst X22 hx (pc := 116) (0 : Int32) (hb hby at_116) (by decide) ?_
            have A := own_law pa2 pb3 off1 ba4.toInt8.toInt32 bb5.toInt8.toInt32 hpa hpb hoff
            generalize own_any (own_g pa2.toNatClampNeg pb3.toNatClampNeg ba4.toInt8.toInt32 bb5.toInt8.toInt32) off1.toInt.toNat = G at A c23
            exact absurd A (by simp only [eba4, ebb5, c10, c11, c12, c16, c23, not_true_eq_false, not_false_eq_true, and_true, and_false, true_and, false_and, or_true, true_or, or_false, false_or, iff_true, iff_false, true_iff, false_iff, and_self, or_self] <;> decide)
          · rw [if_neg c23]
            refine Own.icmpNo X22 hx (pc := 109) (hb hby at_109) (by decide) ?_
            refine Own.iconst X22 hx (pc := 112) (1 : Int32) (hb hby at_112) (by decide) ?_
            refine Own.goto X22 hx (pc := 113) 117 (hb hby at_113) (by decide) (by decide) ?_
            exact Own.ireturn X22 hx hk hret (by simp) rfl (hb hby at_117) e22 ⟨rfl, N22⟩ (by decide) (by decide)
    · refine Own.ifYes X9 hx (pc := 68) 93 (hb hby at_68) (XT.i0_ne_t c11) (by decide) (by decide) ?_
      refine Own.iconst X9 hx (pc := 93) (1 : Int32) (hb hby at_93) (by decide) ?_
      refine Own.goto X9 hx (pc := 94) 98 (hb hby at_94) (by decide) (by decide) ?_
      refine Own.istore X9 hx (pc := 98) #[.val (.int o), .val (.int q1), .val (.int v1), .val (.int q2), .val (.int v2), .val (.int off1), .val (.int pa2), .val (.int pb3), .val (.int ba4), .val (.int bb5), .val (.ref b6), .val (.int (1 : Int32))] (hb hby at_98) rfl ?_
      refine Own.aload X9 hx (pc := 100) (hb hby at_100) rfl rfl ?_
      refine Own.iload X9 hx (pc := 102) (hb hby at_102) rfl ?_
      refine Own.callStatic X9 hx hZ (pc := 104) (y := (⟨"com/example/traceloom/traceloom/smf/Stcke", "isSet", "([BI)Z"⟩ : MethodName)) hown (Wd hw 6 rfl) (Wd hw 7 rfl) (Wd hw 8 rfl) (Wd hw 9 rfl) (by decide) 0 [(.ref b6), (.int off1)] [] (rm2 l Z a0 hw b6 off1 (((List.replicate 22 (.int (0 : Int32))).set pa2.toNatClampNeg (.int ba4.toInt8.toInt32)).set pb3.toNatClampNeg (.int bb5.toInt8.toInt32)) (own_g pa2.toNatClampNeg pb3.toNatClampNeg ba4.toInt8.toInt32 bb5.toInt8.toInt32) h8 n0 sz8 V_b6 hoff (own_list _ _ _ _ (by rw [own_cl hpa.1]; omega) (by rw [own_cl hpb.1]; omega))) (by decide) (by decide) e9 (by rw [hml]; rfl) pd3 rfl rfl (Nat.le_of_eq rfl) (hb hby at_104) (by decide) (by decide) ?_
      intro T24 L24 v24 X24 hQ24
      obtain ⟨rfl, Nq24, e24⟩ := hQ24
      have N24 := Fr.app N9 Nq24
      show Own.Go p e below _ (T24.setTop (mkF m 107 #[.val (.int o), .val (.int q1), .val (.int v1), .val (.int q2), .val (.int v2), .val (.int off1), .val (.int pa2), .val (.int pb3), .val (.int ba4), .val (.int bb5), .val (.ref b6), .val (.int (1 : Int32))] [(.int (if own_any (own_g pa2.toNatClampNeg pb3.toNatClampNeg ba4.toInt8.toInt32 bb5.toInt8.toInt32) off1.toInt.toNat = true then (1 : Int32) else 0))]))
      refine Own.iload X24 hx (pc := 107) (hb hby at_107) rfl ?_
      by_cases c25 : own_any (own_g pa2.toNatClampNeg pb3.toNatClampNeg ba4.toInt8.toInt32 bb5.toInt8.toInt32) off1.toInt.toNat = true
      · rw [if_pos c25]
        refine Own.icmpNo X24 hx (pc := 109) (hb hby at_109) (by decide) ?_
        refine Own.iconst X24 hx (pc := 112) (1 : Int32) (hb hby at_112) (by decide) ?_
        refine Own.goto X24 hx (pc := 113) 117 (hb hby at_113) (by decide) (by decide) ?_
        exact Own.ireturn X24 hx hk hret (by simp) rfl (hb hby at_117) e24 ⟨rfl, N24⟩ (by decide) (by decide)
      · rw [if_neg c25]
        refine Own.icmpYes X24 hx (pc := 109) 116 (hb hby at_109) (by decide) (by decide) (by decide) ?_
        refine Own.iconst X24 hx (pc := 116) (0 : Int32) (hb hby at_116) (by decide) ?_
        have A := own_law pa2 pb3 off1 ba4.toInt8.toInt32 bb5.toInt8.toInt32 hpa hpb hoff
        generalize own_any (own_g pa2.toNatClampNeg pb3.toNatClampNeg ba4.toInt8.toInt32 bb5.toInt8.toInt32) off1.toInt.toNat = G at A c25
        exact absurd A (by simp only [eba4, ebb5, c10, c11, c25, not_true_eq_false, not_false_eq_true, and_true, and_false, true_and, false_and, or_true, true_or, or_false, false_or, iff_true, iff_false, true_iff, false_iff, and_self, or_self] <;> decide)
  · rw [if_neg c10]
    refine Own.ifYes X9 hx (pc := 63) 71 (hb hby at_63) (by decide) (by decide) (by decide) ?_
    refine Own.iload X9 hx (pc := 71) (hb hby at_71) rfl ?_
    refine Own.iload X9 hx (pc := 73) (hb hby at_73) rfl ?_
    by_cases c26 : pa2 = pb3
    · refine Own.icmpYes X9 hx (pc := 75) 97 (hb hby at_75) (XT.ii_eq_t c26) (by decide) (by decide) ?_
      refine Own.iconst X9 hx (pc := 97) (0 : Int32) (hb hby at_97) (by decide) ?_
      refine Own.istore X9 hx (pc := 98) #[.val (.int o), .val (.int q1), .val (.int v1), .val (.int q2), .val (.int v2), .val (.int off1), .val (.int pa2), .val (.int pb3), .val (.int ba4), .val (.int bb5), .val (.ref b6), .val (.int (0 : Int32))] (hb hby at_98) rfl ?_
      refine Own.aload X9 hx (pc := 100) (hb hby at_100) rfl rfl ?_
      refine Own.iload X9 hx (pc := 102) (hb hby at_102) rfl ?_
      refine Own.callStatic X9 hx hZ (pc := 104) (y := (⟨"com/example/traceloom/traceloom/smf/Stcke", "isSet", "([BI)Z"⟩ : MethodName)) hown (Wd hw 6 rfl) (Wd hw 7 rfl) (Wd hw 8 rfl) (Wd hw 9 rfl) (by decide) 0 [(.ref b6), (.int off1)] [] (rm2 l Z a0 hw b6 off1 (((List.replicate 22 (.int (0 : Int32))).set pa2.toNatClampNeg (.int ba4.toInt8.toInt32)).set pb3.toNatClampNeg (.int bb5.toInt8.toInt32)) (own_g pa2.toNatClampNeg pb3.toNatClampNeg ba4.toInt8.toInt32 bb5.toInt8.toInt32) h8 n0 sz8 V_b6 hoff (own_list _ _ _ _ (by rw [own_cl hpa.1]; omega) (by rw [own_cl hpb.1]; omega))) (by decide) (by decide) e9 (by rw [hml]; rfl) pd3 rfl rfl (Nat.le_of_eq rfl) (hb hby at_104) (by decide) (by decide) ?_
      intro T27 L27 v27 X27 hQ27
      obtain ⟨rfl, Nq27, e27⟩ := hQ27
      have N27 := Fr.app N9 Nq27
      show Own.Go p e below _ (T27.setTop (mkF m 107 #[.val (.int o), .val (.int q1), .val (.int v1), .val (.int q2), .val (.int v2), .val (.int off1), .val (.int pa2), .val (.int pb3), .val (.int ba4), .val (.int bb5), .val (.ref b6), .val (.int (0 : Int32))] [(.int (if own_any (own_g pa2.toNatClampNeg pb3.toNatClampNeg ba4.toInt8.toInt32 bb5.toInt8.toInt32) off1.toInt.toNat = true then (1 : Int32) else 0))]))
      refine Own.iload X27 hx (pc := 107) (hb hby at_107) rfl ?_
      by_cases c28 : own_any (own_g pa2.toNatClampNeg pb3.toNatClampNeg ba4.toInt8.toInt32 bb5.toInt8.toInt32) off1.toInt.toNat = true
      · rw [if_pos c28]
        refine Own.icmpYes X27 hx (pc := 109) 116 (hb hby at_109) (by decide) (by decide) (by decide) ?_
        refine Own.iconst X27 hx (pc := 116) (0 : Int32) (hb hby at_116) (by decide) ?_
        have A := own_law pa2 pb3 off1 ba4.toInt8.toInt32 bb5.toInt8.toInt32 hpa hpb hoff
        generalize own_any (own_g pa2.toNatClampNeg pb3.toNatClampNeg ba4.toInt8.toInt32 bb5.toInt8.toInt32) off1.toInt.toNat = G at A c28
        exact absurd A (by simp only [eba4, ebb5, c10, c26, c28, not_true_eq_false, not_false_eq_true, and_true, and_false, true_and, false_and, or_true, true_or, or_false, false_or, iff_true, iff_false, true_iff, false_iff, and_self, or_self] <;> decide)
      · rw [if_neg c28]
        refine Own.icmpNo X27 hx (pc := 109) (hb hby at_109) (by decide) ?_
        refine Own.iconst X27 hx (pc := 112) (1 : Int32) (hb hby at_112) (by decide) ?_
        refine Own.goto X27 hx (pc := 113) 117 (hb hby at_113) (by decide) (by decide) ?_
        exact Own.ireturn X27 hx hk hret (by simp) rfl (hb hby at_117) e27 ⟨rfl, N27⟩ (by decide) (by decide)
    · refine Own.icmpNo X9 hx (pc := 75) (hb hby at_75) (XT.ii_eq_f c26) ?_
      refine Own.iload X9 hx (pc := 78) (hb hby at_78) rfl ?_
      refine Own.iload X9 hx (pc := 80) (hb hby at_80) rfl ?_
      refine Own.callStatic X9 hx hZ (pc := 82) (y := (⟨"com/example/traceloom/traceloom/smf/StckeIsSetPinLaw", "inWindow", "(II)Z"⟩ : MethodName)) hown (Wd hw 2 rfl) (Wd hw 3 rfl) (Wd hw 4 rfl) (Wd hw 5 rfl) (by decide) 0 [(.int pa2), (.int off1)] [] (rm1 l Z a0 hw pa2 off1 h8 n0 sz8 ) (by decide) (by decide) e9 (by rw [hml]; rfl) pd2 rfl rfl (Nat.le_of_eq rfl) (hb hby at_82) (by decide) (by decide) ?_
      intro T29 L29 v29 X29 hQ29
      obtain ⟨rfl, Nq29, e29⟩ := hQ29
      have N29 := Fr.app N9 Nq29
      show Own.Go p e below _ (T29.setTop (mkF m 85 #[.val (.int o), .val (.int q1), .val (.int v1), .val (.int q2), .val (.int v2), .val (.int off1), .val (.int pa2), .val (.int pb3), .val (.int ba4), .val (.int bb5), .val (.ref b6), .unset] [(.int (if (¬ pa2 < off1 ∧ pa2 < off1 + (16 : Int32)) then (1 : Int32) else 0))]))
      by_cases c30 : (¬ pa2 < off1 ∧ pa2 < off1 + (16 : Int32))
      · rw [if_pos c30]
        refine Own.ifNo X29 hx (pc := 85) (hb hby at_85) (by decide) ?_
        refine Own.iload X29 hx (pc := 88) (hb hby at_88) rfl ?_
        by_cases c31 : ba4 = (0 : Int32)
        · refine Own.ifYes X29 hx (pc := 90) 97 (hb hby at_90) (XT.i0_eq_t c31) (by decide) (by decide) ?_
          refine Own.iconst X29 hx (pc := 97) (0 : Int32) (hb hby at_97) (by decide) ?_
          refine Own.istore X29 hx (pc := 98) #[.val (.int o), .val (.int q1), .val (.int v1), .val (.int q2), .val (.int v2), .val (.int off1), .val (.int pa2), .val (.int pb3), .val (.int ba4), .val (.int bb5), .val (.ref b6), .val (.int (0 : Int32))] (hb hby at_98) rfl ?_
          refine Own.aload X29 hx (pc := 100) (hb hby at_100) rfl rfl ?_
          refine Own.iload X29 hx (pc := 102) (hb hby at_102) rfl ?_
          refine Own.callStatic X29 hx hZ (pc := 104) (y := (⟨"com/example/traceloom/traceloom/smf/Stcke", "isSet", "([BI)Z"⟩ : MethodName)) hown (Wd hw 6 rfl) (Wd hw 7 rfl) (Wd hw 8 rfl) (Wd hw 9 rfl) (by decide) 0 [(.ref b6), (.int off1)] [] (rm2 l Z a0 hw b6 off1 (((List.replicate 22 (.int (0 : Int32))).set pa2.toNatClampNeg (.int ba4.toInt8.toInt32)).set pb3.toNatClampNeg (.int bb5.toInt8.toInt32)) (own_g pa2.toNatClampNeg pb3.toNatClampNeg ba4.toInt8.toInt32 bb5.toInt8.toInt32) h8 n0 sz8 V_b6 hoff (own_list _ _ _ _ (by rw [own_cl hpa.1]; omega) (by rw [own_cl hpb.1]; omega))) (by decide) (by decide) e29 (by rw [hml]; rfl) pd3 rfl rfl (Nat.le_of_eq rfl) (hb hby at_104) (by decide) (by decide) ?_
          intro T32 L32 v32 X32 hQ32
          obtain ⟨rfl, Nq32, e32⟩ := hQ32
          have N32 := Fr.app N29 Nq32
          show Own.Go p e below _ (T32.setTop (mkF m 107 #[.val (.int o), .val (.int q1), .val (.int v1), .val (.int q2), .val (.int v2), .val (.int off1), .val (.int pa2), .val (.int pb3), .val (.int ba4), .val (.int bb5), .val (.ref b6), .val (.int (0 : Int32))] [(.int (if own_any (own_g pa2.toNatClampNeg pb3.toNatClampNeg ba4.toInt8.toInt32 bb5.toInt8.toInt32) off1.toInt.toNat = true then (1 : Int32) else 0))]))
          refine Own.iload X32 hx (pc := 107) (hb hby at_107) rfl ?_
          by_cases c33 : own_any (own_g pa2.toNatClampNeg pb3.toNatClampNeg ba4.toInt8.toInt32 bb5.toInt8.toInt32) off1.toInt.toNat = true
          · rw [if_pos c33]
            refine Own.icmpYes X32 hx (pc := 109) 116 (hb hby at_109) (by decide) (by decide) (by decide) ?_
            refine Own.iconst X32 hx (pc := 116) (0 : Int32) (hb hby at_116) (by decide) ?_
            have A := own_law pa2 pb3 off1 ba4.toInt8.toInt32 bb5.toInt8.toInt32 hpa hpb hoff
            generalize own_any (own_g pa2.toNatClampNeg pb3.toNatClampNeg ba4.toInt8.toInt32 bb5.toInt8.toInt32) off1.toInt.toNat = G at A c33
            exact absurd A (by simp only [eba4, ebb5, c10, c26, c30, c31, c33, not_true_eq_false, not_false_eq_true, and_true, and_false, true_and, false_and, or_true, true_or, or_false, false_or, iff_true, iff_false, true_iff, false_iff, and_self, or_self] <;> decide)
          · rw [if_neg c33]
            refine Own.icmpNo X32 hx (pc := 109) (hb hby at_109) (by decide) ?_
            refine Own.iconst X32 hx (pc := 112) (1 : Int32) (hb hby at_112) (by decide) ?_
            refine Own.goto X32 hx (pc := 113) 117 (hb hby at_113) (by decide) (by decide) ?_
            exact Own.ireturn X32 hx hk hret (by simp) rfl (hb hby at_117) e32 ⟨rfl, N32⟩ (by decide) (by decide)
        · refine Own.ifNo X29 hx (pc := 90) (hb hby at_90) (XT.i0_eq_f c31) ?_
          refine Own.iconst X29 hx (pc := 93) (1 : Int32) (hb hby at_93) (by decide) ?_
          refine Own.goto X29 hx (pc := 94) 98 (hb hby at_94) (by decide) (by decide) ?_
          refine Own.istore X29 hx (pc := 98) #[.val (.int o), .val (.int q1), .val (.int v1), .val (.int q2), .val (.int v2), .val (.int off1), .val (.int pa2), .val (.int pb3), .val (.int ba4), .val (.int bb5), .val (.ref b6), .val (.int (1 : Int32))] (hb hby at_98) rfl ?_
          refine Own.aload X29 hx (pc := 100) (hb hby at_100) rfl rfl ?_
          refine Own.iload X29 hx (pc := 102) (hb hby at_102) rfl ?_
          refine Own.callStatic X29 hx hZ (pc := 104) (y := (⟨"com/example/traceloom/traceloom/smf/Stcke", "isSet", "([BI)Z"⟩ : MethodName)) hown (Wd hw 6 rfl) (Wd hw 7 rfl) (Wd hw 8 rfl) (Wd hw 9 rfl) (by decide) 0 [(.ref b6), (.int off1)] [] (rm2 l Z a0 hw b6 off1 (((List.replicate 22 (.int (0 : Int32))).set pa2.toNatClampNeg (.int ba4.toInt8.toInt32)).set pb3.toNatClampNeg (.int bb5.toInt8.toInt32)) (own_g pa2.toNatClampNeg pb3.toNatClampNeg ba4.toInt8.toInt32 bb5.toInt8.toInt32) h8 n0 sz8 V_b6 hoff (own_list _ _ _ _ (by rw [own_cl hpa.1]; omega) (by rw [own_cl hpb.1]; omega))) (by decide) (by decide) e29 (by rw [hml]; rfl) pd3 rfl rfl (Nat.le_of_eq rfl) (hb hby at_104) (by decide) (by decide) ?_
          intro T34 L34 v34 X34 hQ34
          obtain ⟨rfl, Nq34, e34⟩ := hQ34
          have N34 := Fr.app N29 Nq34
          show Own.Go p e below _ (T34.setTop (mkF m 107 #[.val (.int o), .val (.int q1), .val (.int v1), .val (.int q2), .val (.int v2), .val (.int off1), .val (.int pa2), .val (.int pb3), .val (.int ba4), .val (.int bb5), .val (.ref b6), .val (.int (1 : Int32))] [(.int (if own_any (own_g pa2.toNatClampNeg pb3.toNatClampNeg ba4.toInt8.toInt32 bb5.toInt8.toInt32) off1.toInt.toNat = true then (1 : Int32) else 0))]))
          refine Own.iload X34 hx (pc := 107) (hb hby at_107) rfl ?_
          by_cases c35 : own_any (own_g pa2.toNatClampNeg pb3.toNatClampNeg ba4.toInt8.toInt32 bb5.toInt8.toInt32) off1.toInt.toNat = true
          · rw [if_pos c35]
            refine Own.icmpNo X34 hx (pc := 109) (hb hby at_109) (by decide) ?_
            refine Own.iconst X34 hx (pc := 112) (1 : Int32) (hb hby at_112) (by decide) ?_
            refine Own.goto X34 hx (pc := 113) 117 (hb hby at_113) (by decide) (by decide) ?_
            exact Own.ireturn X34 hx hk hret (by simp) rfl (hb hby at_117) e34 ⟨rfl, N34⟩ (by decide) (by decide)
          · rw [if_neg c35]
            refine Own.icmpYes X34 hx (pc := 109) 116 (hb hby at_109) (by decide) (by decide) (by decide) ?_
            refine Own.iconst X34 hx (pc := 116) (0 : Int32) (hb hby at_116) (by decide) ?_
            have A := own_law pa2 pb3 off1 ba4.toInt8.toInt32 bb5.toInt8.toInt32 hpa hpb hoff
            generalize own_any (own_g pa2.toNatClampNeg pb3.toNatClampNeg ba4.toInt8.toInt32 bb5.toInt8.toInt32) off1.toInt.toNat = G at A c35
            exact absurd A (by simp only [eba4, ebb5, c10, c26, c30, c31, c35, not_true_eq_false, not_false_eq_true, and_true, and_false, true_and, false_and, or_true, true_or, or_false, false_or, iff_true, iff_false, true_iff, false_iff, and_self, or_self] <;> decide)
      · rw [if_neg c30]
        refine Own.ifYes X29 hx (pc := 85) 97 (hb hby at_85) (by decide) (by decide) (by decide) ?_
        refine Own.iconst X29 hx (pc := 97) (0 : Int32) (hb hby at_97) (by decide) ?_
        refine Own.istore X29 hx (pc := 98) #[.val (.int o), .val (.int q1), .val (.int v1), .val (.int q2), .val (.int v2), .val (.int off1), .val (.int pa2), .val (.int pb3), .val (.int ba4), .val (.int bb5), .val (.ref b6), .val (.int (0 : Int32))] (hb hby at_98) rfl ?_
        refine Own.aload X29 hx (pc := 100) (hb hby at_100) rfl rfl ?_
        refine Own.iload X29 hx (pc := 102) (hb hby at_102) rfl ?_
        refine Own.callStatic X29 hx hZ (pc := 104) (y := (⟨"com/example/traceloom/traceloom/smf/Stcke", "isSet", "([BI)Z"⟩ : MethodName)) hown (Wd hw 6 rfl) (Wd hw 7 rfl) (Wd hw 8 rfl) (Wd hw 9 rfl) (by decide) 0 [(.ref b6), (.int off1)] [] (rm2 l Z a0 hw b6 off1 (((List.replicate 22 (.int (0 : Int32))).set pa2.toNatClampNeg (.int ba4.toInt8.toInt32)).set pb3.toNatClampNeg (.int bb5.toInt8.toInt32)) (own_g pa2.toNatClampNeg pb3.toNatClampNeg ba4.toInt8.toInt32 bb5.toInt8.toInt32) h8 n0 sz8 V_b6 hoff (own_list _ _ _ _ (by rw [own_cl hpa.1]; omega) (by rw [own_cl hpb.1]; omega))) (by decide) (by decide) e29 (by rw [hml]; rfl) pd3 rfl rfl (Nat.le_of_eq rfl) (hb hby at_104) (by decide) (by decide) ?_
        intro T36 L36 v36 X36 hQ36
        obtain ⟨rfl, Nq36, e36⟩ := hQ36
        have N36 := Fr.app N29 Nq36
        show Own.Go p e below _ (T36.setTop (mkF m 107 #[.val (.int o), .val (.int q1), .val (.int v1), .val (.int q2), .val (.int v2), .val (.int off1), .val (.int pa2), .val (.int pb3), .val (.int ba4), .val (.int bb5), .val (.ref b6), .val (.int (0 : Int32))] [(.int (if own_any (own_g pa2.toNatClampNeg pb3.toNatClampNeg ba4.toInt8.toInt32 bb5.toInt8.toInt32) off1.toInt.toNat = true then (1 : Int32) else 0))]))
        refine Own.iload X36 hx (pc := 107) (hb hby at_107) rfl ?_
        by_cases c37 : own_any (own_g pa2.toNatClampNeg pb3.toNatClampNeg ba4.toInt8.toInt32 bb5.toInt8.toInt32) off1.toInt.toNat = true
        · rw [if_pos c37]
          refine Own.icmpYes X36 hx (pc := 109) 116 (hb hby at_109) (by decide) (by decide) (by decide) ?_
          refine Own.iconst X36 hx (pc := 116) (0 : Int32) (hb hby at_116) (by decide) ?_
          have A := own_law pa2 pb3 off1 ba4.toInt8.toInt32 bb5.toInt8.toInt32 hpa hpb hoff
          generalize own_any (own_g pa2.toNatClampNeg pb3.toNatClampNeg ba4.toInt8.toInt32 bb5.toInt8.toInt32) off1.toInt.toNat = G at A c37
          exact absurd A (by simp only [eba4, ebb5, c10, c26, c30, c37, not_true_eq_false, not_false_eq_true, and_true, and_false, true_and, false_and, or_true, true_or, or_false, false_or, iff_true, iff_false, true_iff, false_iff, and_self, or_self] <;> decide)
        · rw [if_neg c37]
          refine Own.icmpNo X36 hx (pc := 109) (hb hby at_109) (by decide) ?_
          refine Own.iconst X36 hx (pc := 112) (1 : Int32) (hb hby at_112) (by decide) ?_
          refine Own.goto X36 hx (pc := 113) 117 (hb hby at_113) (by decide) (by decide) ?_
          exact Own.ireturn X36 hx hk hret (by simp) rfl (hb hby at_117) e36 ⟨rfl, N36⟩ (by decide) (by decide)
set_option maxRecDepth 65536 in
set_option maxHeartbeats 40000000 in
theorem comes_1 {Post : Tables → Env → Array Value → State → Outcome → State → Prop} (hpost : ∀ tb e args s v u, (limb_1_1.after args s (.returned v) u = true ∧ limb_1_2.after args s (.returned v) u = true ∧ True) → FrameEnd s (.returned v) u (Jvm.fieldLocs frame_1_writes args s ++ Jvm.arrayLocs frame_1_arrays args s ++ Jvm.staticLocs frame_1_statics s) 16 128 → Post tb e args s (.returned v) u) :
    ArmFor flags0 classFile x code maxLocals ret World_1 tables_1 room_1 Calls_1 rest_1 Pre_1 Post := by
  intro l hfl _ _ p e ha hc hk s m args below hf hA hF happ hP
  obtain ⟨hcalls, hrest, hpre⟩ := hP
  obtain ⟨-, -, -, hnamed, -, -, -, hat⟩ := (Spec.applies_iff hf).mp happ
  obtain ⟨hg, hn⟩ := and_e (Cond.before_iff.mp (show (Jvm.Cond.and given_1 narrow_1).before args s = true from hpre))
  obtain ⟨hcount, r0⟩ := and_e hg
  obtain ⟨g0, r1⟩ := and_e r0
  obtain ⟨g1, r2⟩ := and_e r1
  obtain ⟨g2, r3⟩ := and_e r2
  obtain ⟨g3, r4⟩ := and_e r3
  obtain ⟨w0, w1, w2, w3, w4, rfl⟩ : ∃ w0 w1 w2 w3 w4 : Value, args = #[w0, w1, w2, w3, w4] := by
    have hs : args.size = 5 := by simpa [Cond.value, given_1] using hcount
    obtain ⟨L⟩ := args
    match L, hs with
    | [w0, w1, w2, w3, w4], _ => exact ⟨w0, w1, w2, w3, w4, rfl⟩
  have hw := fun d (hd : d ∈ tables_1) => atoms_spec (ws := Jvm.Cond.code x code maxLocals ret :: tables_1) hat d (List.mem_cons_of_mem _ hd)
  obtain ⟨i0, e0⟩ := is_v g0
  obtain rfl : w0 = (.int i0) := Option.some.inj e0
  obtain ⟨i1, e1⟩ := is_v g1
  obtain rfl : w1 = (.int i1) := Option.some.inj e1
  obtain ⟨i2, e2⟩ := is_v g2
  obtain rfl : w2 = (.int i2) := Option.some.inj e2
  obtain ⟨i3, e3⟩ := is_v g3
  obtain rfl : w3 = (.int i3) := Option.some.inj e3
  obtain ⟨i4, e4⟩ := is_v r4
  obtain rfl : w4 = (.int i4) := Option.some.inj e4
  obtain ⟨n, o, h1, h2, h3, _, L, rfl, ⟨rfl, N⟩, hq⟩ := rm0 l s _ hw i0 i1 i2 i3 i4 s.heap s.heap.size (Nat.le_refl _) p e ha hc hk s m _ below hf ((Spec.applies_iff_loose hf).mp happ).1 ⟨rfl, State.Warmed39.refl s, rfl⟩ trivial
  refine ⟨n, _, h1, h2, h3, hpost _ _ _ _ _ _ ⟨Cond.after_iff.mpr rfl, Cond.after_iff.mpr (eq_i res_at (Term.int_eval (1)) rfl), trivial⟩ ⟨hq.1, hq.2.1, (hq.2.2.sift fun y hy => Or.inr (N y hy)).mono (by decide) (by decide)⟩⟩
theorem main_1_1 : Claimed_1_1 := comes_1 fun _ _ _ _ _ _ h hF => ⟨h.1, hF⟩
theorem main_1_2 : Claimed_1_2 := comes_1 fun _ _ _ _ _ _ h hF => ⟨h.2.1, hF⟩
end Jvm.Pilot.@@N@@
namespace Jvm.Pilot.@@N@@
open Jvm Jvm.ClassFile Sem Op Lib Jvm.Free Jvm.Stand Jvm.Pilot.@@N@@.Jvm.D
/-! MADE BY PROGRAM (witnessworld.py) out of the Statement's table words and the real class files: 9 classes; the members and pool entries that the words name. The judged class is class 1, her method 2. -/
namespace start1
open Jvm.ClassFile
def u (s : String) : CpInfo := .utf8 (stringToUtf16 s)
/-- a pool by its gaps: so many unusable entries, then the entry; so many at the end -/
def gap : Nat → List CpInfo → List CpInfo
  | 0, r => r
  | n + 1, r => .unusable :: gap n r
def poolList (es : List (Nat × CpInfo)) (last : Nat) : List CpInfo := es.foldr (fun e r => gap e.1 (e.2 :: r)) (gap last [])
def pool (es : List (Nat × CpInfo)) (last : Nat) : Array CpInfo := ⟨poolList es last⟩
def fileOf (pool : Array CpInfo) (this : Nat) (attrs : Array Attribute := #[]) (ms : Array MethodInfo := #[]) (fl : Nat := 33) (sup : Nat := 0) (ifs : Array Nat := #[]) (fds : Array FieldInfo := #[]) : ClassFile where
  minorVersion := 0
  majorVersion := 65
  constantPool := pool
  accessFlags := fl
  thisClass := this
  superClass := sup
  interfaces := ifs
  fields := fds
  methods := ms
  attributes := attrs
def plain (name : String) (sup : Option ClassId) : Class where
  name := name
  kind := .ordinary
  loader := none
  accessFlags := 33
  super := sup
  interfaces := #[]
  cf := none
  fields := #[]
  methods := #[]
  instanceTypes := #[]
  staticTypes := #[]
  resolved := #[]
  callSites := []
  init := .initialized
  statics := none
  mirror := none

def pool0 : Array CpInfo := pool [(5, u "<init>"), (0, u "()V"), (1, .class_ 10), (1, u "java/lang/Object")] 113

def k0m0 : Method := { name := "<init>", desc := "()V", sig := { parameters := [], returnType := none }, accessFlags := 1, code := none }
/-- java/lang/Object -/
def k0 : Class := { plain "java/lang/Object" none with
  accessFlags := 33
  interfaces := #[]
  cf := some (fileOf pool0 8 #[] #[{ accessFlags := 1, nameIndex := 5, descriptorIndex := 6, attributes := #[] }] 33 0 #[] #[])
  fields := #[]
  methods := #[k0m0]
  instanceTypes := #[]
  staticTypes := #[]
  resolved := Array.replicate 124 none
  statics := none }

def pool1 : Array CpInfo := pool [(2, .class_ 4), (1, u "java/lang/Object"), (0, u "<init>"), (0, u "()V"), (0, .integer 2147483647), (0, .methodref 9 10), (0, .class_ 11), (0, .nameAndType 12 13), (0, u "com/example/traceloom/traceloom/smf/StckeIsSetPinLaw"), (0, u "inWindow"), (0, u "(II)Z"), (0, .methodref 15 16), (0, .class_ 17), (0, .nameAndType 18 19), (0, u "com/example/traceloom/traceloom/smf/Stcke"), (0, u "isSet"), (0, u "([BI)Z"), (3, u "law"), (0, u "(IIIII)Z")] 4

def k1m0 : Method := { name := "<init>", desc := "()V", sig := { parameters := [], returnType := none }, accessFlags := 2, code := none }
def k1c1 : Code := { maxStack := 3, maxLocals := 2, code := method_2_code, exceptionTable := #[], attributes := #[] }
def k1m1 : Method := { name := "inWindow", desc := "(II)Z", sig := { parameters := [.int, .int], returnType := some .boolean }, accessFlags := 10, code := some k1c1 }
def k1c2 : Code := { maxStack := 3, maxLocals := 12, code := code, exceptionTable := #[], attributes := #[] }
def k1m2 : Method := { name := "law", desc := "(IIIII)Z", sig := { parameters := [.int, .int, .int, .int, .int], returnType := some .boolean }, accessFlags := 9, code := some k1c2 }
/-- com/example/traceloom/traceloom/smf/StckeIsSetPinLaw -/
def k1 : Class := { plain "com/example/traceloom/traceloom/smf/StckeIsSetPinLaw" (some 0) with
  accessFlags := 49
  interfaces := #[]
  cf := some (fileOf pool1 9 #[] #[{ accessFlags := 2, nameIndex := 5, descriptorIndex := 6, attributes := #[] }, { accessFlags := 10, nameIndex := 12, descriptorIndex := 13, attributes := #[] }, { accessFlags := 9, nameIndex := 23, descriptorIndex := 24, attributes := #[] }] 49 2 #[] #[])
  fields := #[]
  methods := #[k1m0, k1m1, k1m2]
  instanceTypes := #[]
  staticTypes := #[]
  resolved := Array.replicate 29 none
  statics := none }

def pool2 : Array CpInfo := pool [(2, .class_ 4), (1, u "java/lang/Object"), (0, u "<init>"), (0, u "()V"), (1, .class_ 10), (1, u "com/example/traceloom/traceloom/smf/Stcke"), (12, u "LENGTH"), (0, u "I"), (2, u "UNITS_PER_MICROSECOND"), (1, u "NANOS_1900_TO_1970"), (0, u "J"), (4, u "isSet"), (0, u "([BI)Z")] 2

def k2m0 : Method := { name := "<init>", desc := "()V", sig := { parameters := [], returnType := none }, accessFlags := 2, code := none }
def k2c1 : Code := { maxStack := 3, maxLocals := 3, code := prog_44_method_4_code, exceptionTable := #[], attributes := #[] }
def k2m1 : Method := { name := "isSet", desc := "([BI)Z", sig := { parameters := [(.array .byte), .int], returnType := some .boolean }, accessFlags := 8, code := some k2c1 }
/-- com/example/traceloom/traceloom/smf/Stcke -/
def k2 : Class := { plain "com/example/traceloom/traceloom/smf/Stcke" (some 0) with
  accessFlags := 48
  interfaces := #[]
  cf := some (fileOf pool2 8 #[] #[{ accessFlags := 2, nameIndex := 5, descriptorIndex := 6, attributes := #[] }, { accessFlags := 8, nameIndex := 35, descriptorIndex := 36, attributes := #[] }] 48 2 #[] #[{ accessFlags := 24, nameIndex := 23, descriptorIndex := 24, attributes := #[] }, { accessFlags := 26, nameIndex := 27, descriptorIndex := 24, attributes := #[] }, { accessFlags := 26, nameIndex := 29, descriptorIndex := 30, attributes := #[] }])
  fields := #[{ name := "LENGTH", type := .int, accessFlags := 24, slot := 0, constantValue := 0 }, { name := "UNITS_PER_MICROSECOND", type := .int, accessFlags := 26, slot := 1, constantValue := 0 }, { name := "NANOS_1900_TO_1970", type := .long, accessFlags := 26, slot := 2, constantValue := 0 }]
  methods := #[k2m0, k2m1]
  instanceTypes := #[]
  staticTypes := #[.int, .int, .long]
  resolved := Array.replicate 39 none
  statics := none }

def pool3 : Array CpInfo := pool [(1, u "java/lang/Cloneable"), (0, .class_ 1), (0, u "java/lang/Object"), (0, .class_ 3)] 3

/-- java/lang/Cloneable -/
def k3 : Class := { plain "java/lang/Cloneable" (some 0) with
  accessFlags := 1537
  interfaces := #[]
  cf := some (fileOf pool3 2 #[] #[] 1537 4 #[] #[])
  fields := #[]
  methods := #[]
  instanceTypes := #[]
  staticTypes := #[]
  resolved := Array.replicate 8 none
  statics := none }

def pool4 : Array CpInfo := pool [(1, u "java/io/Serializable"), (0, .class_ 1), (0, u "java/lang/Object"), (0, .class_ 3)] 3

/-- java/io/Serializable -/
def k4 : Class := { plain "java/io/Serializable" (some 0) with
  accessFlags := 1537
  interfaces := #[]
  cf := some (fileOf pool4 2 #[] #[] 1537 4 #[] #[])
  fields := #[]
  methods := #[]
  instanceTypes := #[]
  staticTypes := #[]
  resolved := Array.replicate 8 none
  statics := none }

/-- the primitive byte -/
def k5 : Class := { plain "byte" none with kind := .primitive 'B', accessFlags := 0x411 }
/-- [B -/
def k6 : Class := { plain "[B" (some 0) with kind := .array 5 .byte, interfaces := #[3, 4], accessFlags := 1041 }

/-- the primitive int -/
def k7 : Class := { plain "int" none with kind := .primitive 'I', accessFlags := 0x411 }
/-- [I -/
def k8 : Class := { plain "[I" (some 0) with kind := .array 7 .int, interfaces := #[3, 4], accessFlags := 1041 }

def heap : Heap := #[]
def classes : Array Class := #[k0, k1, k2, k3, k4, k5, k6, k7, k8]
def interned : List (Array UInt16 × Addr) := []
def slotsUsed : Nat := 0
def theMethod : MethodId := ⟨1, 2⟩
def args0 : Array Value := #[.int 5, .int 6, .int 7, .int 8, .int 1]
def aboutOver (below : List Frame) : State where
  vm := { classes := classes, interned := interned.toArray }
  heap := heap
  slotsUsed := slotsUsed
  threads := #[{ frames := .invoking theMethod args0 :: below }]
def below0 : List Frame := [.native { method := ⟨0, 0⟩, args := #[] }]
def about1 : State := aboutOver below0
def p0 : Program := .bare "" "" ""
def e0 : Env := launch0.env 0 0 0
theorem w_frames : about1.frames = Frame.invoking theMethod args0 :: below0 := rfl
set_option maxRecDepth 65536 in
theorem w_args : argsFit about1.vm theMethod args0 = true := by decide +kernel
set_option maxRecDepth 65536 in
theorem w_heap : heapFits about1 = true := by decide +kernel
set_option maxRecDepth 65536 in
theorem w_runnable : about1.curStatus? = some .runnable := by decide +kernel
set_option maxRecDepth 65536 in
theorem w_alone : about1.alone = true := by decide +kernel
set_option maxRecDepth 65536 in
theorem w_named : about1.methodNamed? x = some theMethod := by decide +kernel
set_option maxRecDepth 65536 in
theorem w_hears : about1.hears theMethod below0 = true := by decide +kernel
set_option maxRecDepth 65536 in
theorem w_ripe : about1.ripe theMethod args0 below0 = true := by decide +kernel
theorem w_running : about1.status = .running := rfl
set_option maxRecDepth 65536 in
theorem w_room : about1.hasRoom e0.platform room_1 = true :=
  launch0.hasRoom_least _ room_1 (by decide +kernel) (by decide +kernel) (by decide +kernel) (by decide +kernel) (by decide +kernel) (by decide +kernel)
theorem allAtoms_all (ts : List Jvm.Cond) (a : Array Jvm.Value) (st : Jvm.State) : (allAtoms ts).before a st = ts.all (fun c => c.before a st) := by
  induction ts with
  | nil => rfl
  | cons c t ih =>
    show (Jvm.Cond.and c (allAtoms t)).before a st = _
    rw [Jvm.Cond.before_and, ih, List.all_cons]
def words1 : List Jvm.Cond := Jvm.Cond.code x code maxLocals ret :: tables_1
/-- a 'code' word, met by the world's own term for the bytes: nothing is compared byte by byte -/
theorem code_word {y : MethodName} {bytes : ByteArray} {mx : Nat} {rt : Option FieldType} {a : Array Value} {s : State} {m : MethodId} {meth : Method} {c : Code} (h1 : s.methodNamed? y = some m) (h2 : s.vm.method? m = some meth) (h3 : meth.code = some c) (h4 : c.code = bytes)
    (h5 : (c.maxLocals == mx && c.exceptionTable.isEmpty && decide (c.maxStack ≤ mostOperands) && decide (meth.sig.returnType = rt) && !meth.locks && decide (parseMethodDescriptor y.desc = some meth.sig)) = true) : (Jvm.Cond.code y bytes mx rt).before a s = true := by
  simp only [Bool.and_eq_true, beq_iff_eq, Bool.not_eq_true', decide_eq_true_eq] at h5
  obtain ⟨⟨⟨⟨⟨g1, g2⟩, g3⟩, g4⟩, g5⟩, g6⟩ := h5
  simp [Cond.before, Cond.holds, Cond.value, h1, h2, h3, h4, g1, g2, g3, g4, g5, g6]
def isCode : Jvm.Cond → Bool
  | .code _ _ _ _ => true
  | _ => false
theorem all_split {L : List Jvm.Cond} {P : Jvm.Cond → Bool} (h1 : L.all (fun c => isCode c || P c) = true) (h2 : ∀ c ∈ L.filter isCode, P c = true) : L.all P = true := by
  refine List.all_eq_true.mpr fun c hc => ?_
  have h := List.all_eq_true.mp h1 c hc
  rcases Bool.eq_false_or_eq_true (isCode c) with hi | hi
  · exact h2 c (List.mem_filter.mpr ⟨hc, hi⟩)
  · simpa [hi] using h
set_option maxRecDepth 65536 in
theorem w_c0 : (Jvm.Cond.code x code maxLocals ret).before args0 about1 = true := code_word (m := ⟨1, 2⟩) (meth := k1m2) (c := k1c2) (by decide +kernel) rfl rfl rfl (by decide +kernel)
set_option maxRecDepth 65536 in
theorem w_c1 : (Jvm.Cond.code ({ cls := "com/example/traceloom/traceloom/smf/StckeIsSetPinLaw", name := "inWindow", desc := "(II)Z" } : Jvm.MethodName) method_2_code (2 : Nat) (Option.some Jvm.ClassFile.FieldType.boolean)).before args0 about1 = true := code_word (m := ⟨1, 1⟩) (meth := k1m1) (c := k1c1) (by decide +kernel) rfl rfl rfl (by decide +kernel)
set_option maxRecDepth 65536 in
theorem w_c2 : (Jvm.Cond.code ({ cls := "com/example/traceloom/traceloom/smf/Stcke", name := "isSet", desc := "([BI)Z" } : Jvm.MethodName) prog_44_method_4_code (3 : Nat) (Option.some Jvm.ClassFile.FieldType.boolean)).before args0 about1 = true := code_word (m := ⟨2, 1⟩) (meth := k2m1) (c := k2c1) (by decide +kernel) rfl rfl rfl (by decide +kernel)
def codes1 : List Jvm.Cond := [Jvm.Cond.code x code maxLocals ret, Jvm.Cond.code ({ cls := "com/example/traceloom/traceloom/smf/StckeIsSetPinLaw", name := "inWindow", desc := "(II)Z" } : Jvm.MethodName) method_2_code (2 : Nat) (Option.some Jvm.ClassFile.FieldType.boolean), Jvm.Cond.code ({ cls := "com/example/traceloom/traceloom/smf/Stcke", name := "isSet", desc := "([BI)Z" } : Jvm.MethodName) prog_44_method_4_code (3 : Nat) (Option.some Jvm.ClassFile.FieldType.boolean)]
set_option maxRecDepth 65536 in
theorem codes_eq : words1.filter isCode = codes1 := rfl
theorem w_codes : ∀ c ∈ words1.filter isCode, c.before args0 about1 = true := by
  rw [codes_eq]
  intro c hc
  simp only [codes1, List.mem_cons, List.not_mem_nil, or_false] at hc
  rcases hc with rfl | rfl | rfl
  · exact w_c0
  · exact w_c1
  · exact w_c2
set_option maxRecDepth 65536 in
theorem w_t1 : words1.all (fun c => isCode c || c.before args0 about1) = true := by decide +kernel
theorem w_tables : (allAtoms (Jvm.Cond.code x code maxLocals ret :: tables_1)).before args0 about1 = true := by
  rw [allAtoms_all]
  show words1.all (fun c => c.before args0 about1) = true
  refine all_split ?_ w_codes
  rw [w_t1]
set_option maxRecDepth 65536 in
theorem w_case : (Jvm.Cond.and given_1 narrow_1).before args0 about1 = true := by decide +kernel
theorem w_applies : (headSpec (Jvm.Cond.code x code maxLocals ret :: tables_1) room_1).applies x e0.platform about1 = true :=
  (Spec.applies_iff w_frames).mpr ⟨w_running, w_runnable, w_alone, w_named, w_hears, w_ripe, w_room, w_tables⟩
theorem atStart : AtStart classFile x code maxLocals ret World_1 tables_1 room_1 Calls_1 rest_1 Pre_1 launch0 p0 e0 about1 theMethod args0 below0 :=
  ⟨lists_1, trivial, launch0.admits_env _ _ _, launch0.least_env, fairChoices_fair.cas, fairChoices_fair.clock, w_frames, w_args, w_heap, w_applies, trivial, trivial, w_case⟩
end start1
theorem witness_1 : WitnessClaimed_1 := ⟨start1.p0, start1.e0, start1.about1, start1.theMethod, start1.args0, start1.below0, start1.atStart⟩
end Jvm.Pilot.@@N@@
