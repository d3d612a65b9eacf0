import JvmDerived
import JvmDerived.Pilot.@@N@@Statement
import JvmDerived.Pilot.@@N@@Code
set_option linter.unusedVariables false
set_option linter.unusedSimpArgs false
namespace Jvm.Own
open Sem ClassFile Op Lib Jvm.Stand Jvm.Free Jvm.LawKit Jvm.RoadKit
/-! ### what is left to walk, and one law a step -/
def Go (p : Program) (e : Env) (below : List Frame) (P : Outcome → State → Prop) (S : State) : Prop :=
  ∃ s₂ o, Steps p.tables e below S s₂ ∧ s₂.status = .running ∧ Ended s₂ below o ∧ P o s₂
def Fini (s : State) (Q : Option Value → Heap → List Loc → Prop) (k n : Nat) (o : Outcome) (U : State) : Prop :=
  ∃ v L, o = .returned v ∧ Q v U.heap L ∧ FrameEnd s o U L k n
def Ct (l : Launch) (y : MethodName) (bytes : ByteArray) (maxL : Nat) (ret : Option FieldType) (ws : List Jvm.Cond) (rm : Room) (Z : State) (as : Array Value) (h : Heap) (Q : Option Value → Heap → List Loc → Prop) : Prop :=
  MetFree l y (head1 (Jvm.Cond.code y bytes maxL ret :: ws) rm) (fun a U => a = as ∧ Z.Warmed39 U.vm ∧ U.heap = h) (fun _ _ _ _ _ => True) (fun _ U o U' => ∃ v L, o = .returned v ∧ Q v U'.heap L ∧ FrameEnd U o U' L rm.cells rm.slots)
section Walk
variable {p : Program} {l : Launch} {e : Env} {R : Room} {s : State} {m : MethodId} {args : Array Value} {below : List Frame} {meth : Method} {c : Code} {T : State} {locs : List Loc} {cells slots : Nat} {P : Outcome → State → Prop} {Z : State} {a0 : Array Value} {h : Heap}
variable {pc : Nat} {L : Array Slot} {rest st : List Value}
theorem Go.via {A B : State} (q : ∀ t, Steps p.tables e below B t → Steps p.tables e below A t) (k : Go p e below P B) : Go p e below P A := by
  obtain ⟨s2, o, h1, h2⟩ := k
  exact ⟨s2, o, q _ h1, h2⟩
theorem Go.tr {A B : State} (q : Steps p.tables e below A B) (k : Go p e below P B) : Go p e below P A := Go.via (fun _ r => q.trans r) k
theorem enter {y : MethodName} {bytes : ByteArray} {maxL : Nat} {ret : Option FieldType} {ws : List Jvm.Cond} {rm : Room} {as : Array Value} {Q : Option Value → Heap → List Loc → Prop} (hy : plainFor y = true)
    (body : ∀ p e s m below meth c s₁, p.tables.exec = Jvm.exec → c.code = bytes → c.maxLocals = maxL → s.vm.findClass y.cls = some m.cls → meth.name = y.name → meth.sig.returnType = ret → meth.locks = false → Z.Warmed39 s.vm →
      Stand p l e rm s m as below meth c s₁ [] 0 0 → s₁.heap = h → Go p e below (Fini s Q rm.cells rm.slots) (s₁.setTop (entryFrame m as maxL))) : Ct l y bytes maxL ret ws rm Z as h Q := by
  refine MetFree.of_bodySF hy hisR ?_
  intro p e s m args below meth c s₁ Bd hml hP hK
  obtain ⟨rfl, hZ, hh⟩ := hP
  exact body p e s m below meth c s₁ Bd.exec Bd.bytes hml (findClass_of_methodNamed Bd.named) (name_of_methodNamed Bd.named Bd.method).1 Bd.returns Bd.notSynchronized hZ (Stand.of_body Bd) (by rw [← hh, Bd.state]; rfl)
theorem start {g g' : JFrame} (q : g = g') (k : Go p e below P (T.setTop g')) : Go p e below P (T.setTop g) := q ▸ k
theorem induct {α : Type} (S : α → State) (I : Nat → α → Prop) (base : ∀ a, I 0 a → Go p e below P (S a)) (step : ∀ k a, I (k + 1) a → (∀ a', I k a' → Go p e below P (S a')) → Go p e below P (S a)) {n : Nat} {a : α} (w : I n a) : Go p e below P (S a) := by
  induction n generalizing a with
  | zero => exact base a w
  | succ k ih => exact step k a w (fun a' w' => ih w')
/-! plain steps -/
theorem aloadN (X : Stand p l e R s m args below meth c T locs cells slots) (hx : p.tables.exec = Jvm.exec) {i : Fin 4} {v : Value} (hd : decode c.code pc = .ok (.aload_n i, 1)) (hl : L[i.val]? = some (.val v)) (hv : v.isRef = true) (k : Go p e below P (T.setTop (mkF m (pc + 1) L (v :: st)))) : Go p e below P (T.setTop (mkF m pc L st)) := Go.via (fun _ q => XS.aloadN X.here hx rfl hd hl hv q) k
theorem aload (X : Stand p l e R s m args below meth c T locs cells slots) (hx : p.tables.exec = Jvm.exec) {i : Nat} {v : Value} (hd : decode c.code pc = .ok (.aload i, 2)) (hl : L[i]? = some (.val v)) (hv : v.isRef = true) (k : Go p e below P (T.setTop (mkF m (pc + 2) L (v :: st)))) : Go p e below P (T.setTop (mkF m pc L st)) := Go.via (fun _ q => XS.aload X.here hx rfl hd hl hv q) k
theorem iloadN (X : Stand p l e R s m args below meth c T locs cells slots) (hx : p.tables.exec = Jvm.exec) {i : Fin 4} {v : Int32} (hd : decode c.code pc = .ok (.iload_n i, 1)) (hl : L[i.val]? = some (.val (.int v))) (k : Go p e below P (T.setTop (mkF m (pc + 1) L (.int v :: st)))) : Go p e below P (T.setTop (mkF m pc L st)) := Go.via (fun _ q => XS.iloadN X.here hx rfl hd hl q) k
theorem iload (X : Stand p l e R s m args below meth c T locs cells slots) (hx : p.tables.exec = Jvm.exec) {i : Nat} {v : Int32} (hd : decode c.code pc = .ok (.iload i, 2)) (hl : L[i]? = some (.val (.int v))) (k : Go p e below P (T.setTop (mkF m (pc + 2) L (.int v :: st)))) : Go p e below P (T.setTop (mkF m pc L st)) := Go.via (fun _ q => XS.iload X.here hx rfl hd hl q) k
theorem lloadN (X : Stand p l e R s m args below meth c T locs cells slots) (hx : p.tables.exec = Jvm.exec) {i : Fin 4} {v : Int64} (hd : decode c.code pc = .ok (.lload_n i, 1)) (hl : L[i.val]? = some (.val (.long v))) (k : Go p e below P (T.setTop (mkF m (pc + 1) L (.long v :: st)))) : Go p e below P (T.setTop (mkF m pc L st)) := Go.via (fun _ q => XT.lloadN X.here hx rfl hd hl q) k
theorem lload (X : Stand p l e R s m args below meth c T locs cells slots) (hx : p.tables.exec = Jvm.exec) {i : Nat} {v : Int64} (hd : decode c.code pc = .ok (.lload i, 2)) (hl : L[i]? = some (.val (.long v))) (k : Go p e below P (T.setTop (mkF m (pc + 2) L (.long v :: st)))) : Go p e below P (T.setTop (mkF m pc L st)) := Go.via (fun _ q => XT.lload X.here hx rfl hd hl q) k
theorem istoreN (X : Stand p l e R s m args below meth c T locs cells slots) (hx : p.tables.exec = Jvm.exec) {i : Fin 4} {v : Int32} (L' : Array Slot) (hd : decode c.code pc = .ok (.istore_n i, 1)) (hl : storeLocals L i.val (.int v) = some L') (k : Go p e below P (T.setTop (mkF m (pc + 1) L' st))) : Go p e below P (T.setTop (mkF m pc L (.int v :: st))) := Go.via (fun _ q => XS.istoreN X.here hx rfl hd rfl hl q) k
theorem istore (X : Stand p l e R s m args below meth c T locs cells slots) (hx : p.tables.exec = Jvm.exec) {i : Nat} {v : Int32} (L' : Array Slot) (hd : decode c.code pc = .ok (.istore i, 2)) (hl : storeLocals L i (.int v) = some L') (k : Go p e below P (T.setTop (mkF m (pc + 2) L' st))) : Go p e below P (T.setTop (mkF m pc L (.int v :: st))) := Go.via (fun _ q => XS.istore X.here hx rfl hd rfl hl q) k
theorem lstoreN (X : Stand p l e R s m args below meth c T locs cells slots) (hx : p.tables.exec = Jvm.exec) {i : Fin 4} {v : Int64} (L' : Array Slot) (hd : decode c.code pc = .ok (.lstore_n i, 1)) (hl : storeLocals L i.val (.long v) = some L') (k : Go p e below P (T.setTop (mkF m (pc + 1) L' st))) : Go p e below P (T.setTop (mkF m pc L (.long v :: st))) := Go.via (fun _ q => XT.lstoreN X.here hx rfl hd rfl hl q) k
theorem lstore (X : Stand p l e R s m args below meth c T locs cells slots) (hx : p.tables.exec = Jvm.exec) {i : Nat} {v : Int64} (L' : Array Slot) (hd : decode c.code pc = .ok (.lstore i, 2)) (hl : storeLocals L i (.long v) = some L') (k : Go p e below P (T.setTop (mkF m (pc + 2) L' st))) : Go p e below P (T.setTop (mkF m pc L (.long v :: st))) := Go.via (fun _ q => XT.lstore X.here hx rfl hd rfl hl q) k
theorem astoreN (X : Stand p l e R s m args below meth c T locs cells slots) (hx : p.tables.exec = Jvm.exec) {i : Fin 4} {v : Value} (L' : Array Slot) (hd : decode c.code pc = .ok (.astore_n i, 1)) (hv : v.isRef = true) (hl : storeLocals L i.val v = some L') (k : Go p e below P (T.setTop (mkF m (pc + 1) L' st))) : Go p e below P (T.setTop (mkF m pc L (v :: st))) := Go.via (fun _ q => XS.astoreN X.here hx rfl hd rfl hv hl q) k
theorem astore (X : Stand p l e R s m args below meth c T locs cells slots) (hx : p.tables.exec = Jvm.exec) {i : Nat} {v : Value} (L' : Array Slot) (hd : decode c.code pc = .ok (.astore i, 2)) (hv : v.isRef = true) (hl : storeLocals L i v = some L') (k : Go p e below P (T.setTop (mkF m (pc + 2) L' st))) : Go p e below P (T.setTop (mkF m pc L (v :: st))) := Go.via (fun _ q => XS.astore X.here hx rfl hd rfl hv hl q) k
theorem iconst (X : Stand p l e R s m args below meth c T locs cells slots) (hx : p.tables.exec = Jvm.exec) {i : Int} (v : Int32) (hd : decode c.code pc = .ok (.iconst i, 1)) (hv : Int32.ofInt i = v) (k : Go p e below P (T.setTop (mkF m (pc + 1) L (.int v :: st)))) : Go p e below P (T.setTop (mkF m pc L st)) := Go.via (fun _ q => XS.iconst X.here hx rfl hd (hv ▸ q)) k
theorem bipush (X : Stand p l e R s m args below meth c T locs cells slots) (hx : p.tables.exec = Jvm.exec) {i : Int} (v : Int32) (hd : decode c.code pc = .ok (.bipush i, 2)) (hv : (Int8.ofInt i).toInt32 = v) (k : Go p e below P (T.setTop (mkF m (pc + 2) L (.int v :: st)))) : Go p e below P (T.setTop (mkF m pc L st)) := Go.via (fun _ q => XS.bipush X.here hx rfl hd (hv ▸ q)) k
theorem sipush (X : Stand p l e R s m args below meth c T locs cells slots) (hx : p.tables.exec = Jvm.exec) {i : Int} (v : Int32) (hd : decode c.code pc = .ok (.sipush i, 3)) (hv : (Int16.ofInt i).toInt32 = v) (k : Go p e below P (T.setTop (mkF m (pc + 3) L (.int v :: st)))) : Go p e below P (T.setTop (mkF m pc L st)) := Go.via (fun _ q => XS.sipush X.here hx rfl hd (hv ▸ q)) k
theorem lconst (X : Stand p l e R s m args below meth c T locs cells slots) (hx : p.tables.exec = Jvm.exec) {i : Fin 2} (v : Int64) (hd : decode c.code pc = .ok (.lconst i, 1)) (hv : Int64.ofNat i = v) (k : Go p e below P (T.setTop (mkF m (pc + 1) L (.long v :: st)))) : Go p e below P (T.setTop (mkF m pc L st)) := Go.via (fun _ q => XT.lconst X.here hx rfl hd (hv ▸ q)) k
theorem aconstNull (X : Stand p l e R s m args below meth c T locs cells slots) (hx : p.tables.exec = Jvm.exec) (hd : decode c.code pc = .ok (.aconst_null, 1)) (k : Go p e below P (T.setTop (mkF m (pc + 1) L (.null :: st)))) : Go p e below P (T.setTop (mkF m pc L st)) := Go.via (fun _ q => XS.aconstNull X.here hx rfl hd q) k
theorem ldcI (X : Stand p l e R s m args below meth c T locs cells slots) (hx : p.tables.exec = Jvm.exec) (hZ : Z.Warmed39 s.vm) {own : String} {i : Nat} {v : Int32} (hown : s.vm.findClass own = some m.cls) (w : (Cond.constant own i v).before a0 Z = true) (hd : decode c.code pc = .ok (.ldc i, 2)) (k : Go p e below P (T.setTop (mkF m (pc + 2) L (.int v :: st)))) : Go p e below P (T.setTop (mkF m pc L st)) := Go.via (fun _ q => X.ldcI hx hown (mvT hZ w) rfl hd q) k
theorem ldcWI (X : Stand p l e R s m args below meth c T locs cells slots) (hx : p.tables.exec = Jvm.exec) (hZ : Z.Warmed39 s.vm) {own : String} {i : Nat} {v : Int32} (hown : s.vm.findClass own = some m.cls) (w : (Cond.constant own i v).before a0 Z = true) (hd : decode c.code pc = .ok (.ldc_w i, 3)) (k : Go p e below P (T.setTop (mkF m (pc + 3) L (.int v :: st)))) : Go p e below P (T.setTop (mkF m pc L st)) := Go.via (fun _ q => X.ldcWI hx hown (mvT hZ w) rfl hd q) k
theorem ldc2J (X : Stand p l e R s m args below meth c T locs cells slots) (hx : p.tables.exec = Jvm.exec) (hZ : Z.Warmed39 s.vm) {own : String} {i : Nat} {v : Int64} (hown : s.vm.findClass own = some m.cls) (w : (Cond.constantLong own i v).before a0 Z = true) (hd : decode c.code pc = .ok (.ldc2_w i, 3)) (k : Go p e below P (T.setTop (mkF m (pc + 3) L (.long v :: st)))) : Go p e below P (T.setTop (mkF m pc L st)) := Go.via (fun _ q => X.ldc2J hx hown (mvT hZ w) rfl hd q) k
theorem iinc (X : Stand p l e R s m args below meth c T locs cells slots) (hx : p.tables.exec = Jvm.exec) {i : Nat} {d : Int} {x : Int32} (v : Int32) (L' : Array Slot) (hd : decode c.code pc = .ok (.iinc i d, 3)) (hv : Int32.ofInt d = v) (hl : L[i]? = some (.val (.int x))) (hl' : storeLocals L i (.int (x + v)) = some L') (k : Go p e below P (T.setTop (mkF m (pc + 3) L' st))) : Go p e below P (T.setTop (mkF m pc L st)) := Go.via (fun _ q => XS.iinc X.here hx rfl hd hl (hv ▸ hl') q) k
theorem goto (X : Stand p l e R s m args below meth c T locs cells slots) (hx : p.tables.exec = Jvm.exec) {o : Int} (pc' : Nat) (hd : decode c.code pc = .ok (.goto o, 3)) (ho : 0 ≤ (pc : Int) + o) (hp : ((pc : Int) + o).toNat = pc') (k : Go p e below P (T.setTop (mkF m pc' L st))) : Go p e below P (T.setTop (mkF m pc L st)) := Go.via (fun _ q => XS.goto X.here hx rfl rfl hd ho hp q) k
theorem ifYes (X : Stand p l e R s m args below meth c T locs cells slots) (hx : p.tables.exec = Jvm.exec) {cd : ClassFile.Cond} {x : Int32} {o : Int} (pc' : Nat) (hd : decode c.code pc = .ok (.ifCond cd o, 3)) (hc : ifCond.holds cd x = true) (ho : 0 ≤ (pc : Int) + o) (hp : ((pc : Int) + o).toNat = pc') (k : Go p e below P (T.setTop (mkF m pc' L st))) : Go p e below P (T.setTop (mkF m pc L (.int x :: st))) := Go.via (fun _ q => XS.ifYes X.here hx rfl rfl hd rfl hc ho hp q) k
theorem ifNo (X : Stand p l e R s m args below meth c T locs cells slots) (hx : p.tables.exec = Jvm.exec) {cd : ClassFile.Cond} {x : Int32} {o : Int} (hd : decode c.code pc = .ok (.ifCond cd o, 3)) (hc : ifCond.holds cd x = false) (k : Go p e below P (T.setTop (mkF m (pc + 3) L st))) : Go p e below P (T.setTop (mkF m pc L (.int x :: st))) := Go.via (fun _ q => XS.ifNo X.here hx rfl hd rfl hc q) k
theorem icmpYes (X : Stand p l e R s m args below meth c T locs cells slots) (hx : p.tables.exec = Jvm.exec) {cd : ClassFile.Cond} {x y : Int32} {o : Int} (pc' : Nat) (hd : decode c.code pc = .ok (.if_icmp cd o, 3)) (hc : if_icmp.holds cd x y = true) (ho : 0 ≤ (pc : Int) + o) (hp : ((pc : Int) + o).toNat = pc') (k : Go p e below P (T.setTop (mkF m pc' L st))) : Go p e below P (T.setTop (mkF m pc L (.int y :: .int x :: st))) := Go.via (fun _ q => XS.icmpYes X.here hx rfl rfl hd rfl hc ho hp q) k
theorem icmpNo (X : Stand p l e R s m args below meth c T locs cells slots) (hx : p.tables.exec = Jvm.exec) {cd : ClassFile.Cond} {x y : Int32} {o : Int} (hd : decode c.code pc = .ok (.if_icmp cd o, 3)) (hc : if_icmp.holds cd x y = false) (k : Go p e below P (T.setTop (mkF m (pc + 3) L st))) : Go p e below P (T.setTop (mkF m pc L (.int y :: .int x :: st))) := Go.via (fun _ q => XS.icmpNo X.here hx rfl hd rfl hc q) k
theorem ifnullYes (X : Stand p l e R s m args below meth c T locs cells slots) (hx : p.tables.exec = Jvm.exec) {o : Int} (pc' : Nat) (hd : decode c.code pc = .ok (.ifnull o, 3)) (ho : 0 ≤ (pc : Int) + o) (hp : ((pc : Int) + o).toNat = pc') (k : Go p e below P (T.setTop (mkF m pc' L st))) : Go p e below P (T.setTop (mkF m pc L (.null :: st))) := Go.via (fun _ q => XS.ifnullYes X.here hx rfl rfl hd rfl ho hp q) k
theorem ifnullNo (X : Stand p l e R s m args below meth c T locs cells slots) (hx : p.tables.exec = Jvm.exec) {o : Int} {b : Addr} (hd : decode c.code pc = .ok (.ifnull o, 3)) (k : Go p e below P (T.setTop (mkF m (pc + 3) L st))) : Go p e below P (T.setTop (mkF m pc L (.ref b :: st))) := Go.via (fun _ q => XS.ifnullNo X.here hx rfl hd rfl q) k
theorem ifnonnullYes (X : Stand p l e R s m args below meth c T locs cells slots) (hx : p.tables.exec = Jvm.exec) {o : Int} {b : Addr} (pc' : Nat) (hd : decode c.code pc = .ok (.ifnonnull o, 3)) (ho : 0 ≤ (pc : Int) + o) (hp : ((pc : Int) + o).toNat = pc') (k : Go p e below P (T.setTop (mkF m pc' L st))) : Go p e below P (T.setTop (mkF m pc L (.ref b :: st))) := Go.via (fun _ q => XT.ifnonnullYes X.here hx rfl rfl hd rfl ho hp q) k
theorem ifnonnullNo (X : Stand p l e R s m args below meth c T locs cells slots) (hx : p.tables.exec = Jvm.exec) {o : Int} (hd : decode c.code pc = .ok (.ifnonnull o, 3)) (k : Go p e below P (T.setTop (mkF m (pc + 3) L st))) : Go p e below P (T.setTop (mkF m pc L (.null :: st))) := Go.via (fun _ q => XT.ifnonnullNo X.here hx rfl hd rfl q) k
theorem dup (X : Stand p l e R s m args below meth c T locs cells slots) (hx : p.tables.exec = Jvm.exec) {v : Value} (hd : decode c.code pc = .ok (.dup, 1)) (hc : v.category = 1) (k : Go p e below P (T.setTop (mkF m (pc + 1) L (v :: v :: st)))) : Go p e below P (T.setTop (mkF m pc L (v :: st))) := Go.via (fun _ q => XS.dup X.here hx rfl hd rfl hc q) k
theorem dup2 (X : Stand p l e R s m args below meth c T locs cells slots) (hx : p.tables.exec = Jvm.exec) {v w : Value} (hd : decode c.code pc = .ok (.dup2, 1)) (hc : v.category = 1) (hc' : w.category = 1) (k : Go p e below P (T.setTop (mkF m (pc + 1) L (v :: w :: v :: w :: st)))) : Go p e below P (T.setTop (mkF m pc L (v :: w :: st))) := Go.via (fun _ q => XT.dup2 X.here hx rfl hd rfl hc hc' q) k
theorem dup2L (X : Stand p l e R s m args below meth c T locs cells slots) (hx : p.tables.exec = Jvm.exec) {v : Int64} (hd : decode c.code pc = .ok (.dup2, 1)) (k : Go p e below P (T.setTop (mkF m (pc + 1) L (.long v :: .long v :: st)))) : Go p e below P (T.setTop (mkF m pc L (.long v :: st))) := Go.via (fun _ q => XT.dup2L X.here hx rfl hd rfl q) k
theorem dupX1 (X : Stand p l e R s m args below meth c T locs cells slots) (hx : p.tables.exec = Jvm.exec) {v w : Value} (hd : decode c.code pc = .ok (.dup_x1, 1)) (hc : v.category = 1) (hc' : w.category = 1) (k : Go p e below P (T.setTop (mkF m (pc + 1) L (v :: w :: v :: st)))) : Go p e below P (T.setTop (mkF m pc L (v :: w :: st))) := Go.via (fun _ q => XT.dupX1 X.here hx rfl hd rfl hc hc' q) k
theorem pop (X : Stand p l e R s m args below meth c T locs cells slots) (hx : p.tables.exec = Jvm.exec) {v : Value} (hd : decode c.code pc = .ok (.pop, 1)) (hc : v.category = 1) (k : Go p e below P (T.setTop (mkF m (pc + 1) L st))) : Go p e below P (T.setTop (mkF m pc L (v :: st))) := Go.via (fun _ q => XT.pop X.here hx rfl hd rfl hc q) k
theorem xdupX2 {e : Env} {below : List Frame} {T target : State} {m : MethodId} {c : Code} {g : JFrame} (h : At T m c below) (hx : p.tables.exec = Jvm.exec) (hg : g.method = m) {x y z : Value} {rest : List Value} (hd : decode c.code g.pc = .ok (.dup_x2, 1)) (hs : g.stack = x :: y :: z :: rest) (hc : x.category = 1) (hc' : y.category = 1) (hc2 : z.category = 1)
    (hr : Steps p.tables e below (T.setTop { g with pc := g.pc + 1, stack := x :: y :: z :: x :: rest }) target) : Steps p.tables e below (T.setTop g) target := by
  subst hg
  jvm_step h [h.top, hx, hd, hs, hc, hc', hc2]
  exact hr
theorem dupX2 (X : Stand p l e R s m args below meth c T locs cells slots) (hx : p.tables.exec = Jvm.exec) {v w u : Value} (hd : decode c.code pc = .ok (.dup_x2, 1)) (hc : v.category = 1) (hc' : w.category = 1) (hc2 : u.category = 1) (k : Go p e below P (T.setTop (mkF m (pc + 1) L (v :: w :: u :: v :: st)))) : Go p e below P (T.setTop (mkF m pc L (v :: w :: u :: st))) := Go.via (fun _ q => xdupX2 X.here hx rfl hd rfl hc hc' hc2 q) k
theorem xdup2X2 {e : Env} {below : List Frame} {T target : State} {m : MethodId} {c : Code} {g : JFrame} (h : At T m c below) (hx : p.tables.exec = Jvm.exec) (hg : g.method = m) {x : Int64} {y z : Value} {rest : List Value} (hd : decode c.code g.pc = .ok (.dup2_x2, 1)) (hs : g.stack = .long x :: y :: z :: rest) (hc' : y.category = 1) (hc2 : z.category = 1)
    (hr : Steps p.tables e below (T.setTop { g with pc := g.pc + 1, stack := .long x :: y :: z :: .long x :: rest }) target) : Steps p.tables e below (T.setTop g) target := by
  subst hg
  jvm_step h [h.top, hx, hd, hs, hc', hc2]
  exact hr
theorem dup2X2 (X : Stand p l e R s m args below meth c T locs cells slots) (hx : p.tables.exec = Jvm.exec) {v : Int64} {w u : Value} (hd : decode c.code pc = .ok (.dup2_x2, 1)) (hc' : w.category = 1) (hc2 : u.category = 1) (k : Go p e below P (T.setTop (mkF m (pc + 1) L (.long v :: w :: u :: .long v :: st)))) : Go p e below P (T.setTop (mkF m pc L (.long v :: w :: u :: st))) := Go.via (fun _ q => xdup2X2 X.here hx rfl hd rfl hc' hc2 q) k
theorem iadd (X : Stand p l e R s m args below meth c T locs cells slots) (hx : p.tables.exec = Jvm.exec) {x y : Int32} (hd : decode c.code pc = .ok (.iadd, 1)) (k : Go p e below P (T.setTop (mkF m (pc + 1) L (.int (x + y) :: st)))) : Go p e below P (T.setTop (mkF m pc L (.int y :: .int x :: st))) := Go.via (fun _ q => XS.iadd X.here hx rfl hd rfl q) k
theorem isub (X : Stand p l e R s m args below meth c T locs cells slots) (hx : p.tables.exec = Jvm.exec) {x y : Int32} (hd : decode c.code pc = .ok (.isub, 1)) (k : Go p e below P (T.setTop (mkF m (pc + 1) L (.int (x - y) :: st)))) : Go p e below P (T.setTop (mkF m pc L (.int y :: .int x :: st))) := Go.via (fun _ q => XS.isub X.here hx rfl hd rfl q) k
theorem imul (X : Stand p l e R s m args below meth c T locs cells slots) (hx : p.tables.exec = Jvm.exec) {x y : Int32} (hd : decode c.code pc = .ok (.imul, 1)) (k : Go p e below P (T.setTop (mkF m (pc + 1) L (.int (x * y) :: st)))) : Go p e below P (T.setTop (mkF m pc L (.int y :: .int x :: st))) := Go.via (fun _ q => XS.imul X.here hx rfl hd rfl q) k
theorem iand (X : Stand p l e R s m args below meth c T locs cells slots) (hx : p.tables.exec = Jvm.exec) {x y : Int32} (hd : decode c.code pc = .ok (.iand, 1)) (k : Go p e below P (T.setTop (mkF m (pc + 1) L (.int (x &&& y) :: st)))) : Go p e below P (T.setTop (mkF m pc L (.int y :: .int x :: st))) := Go.via (fun _ q => XS.iand X.here hx rfl hd rfl q) k
theorem ior (X : Stand p l e R s m args below meth c T locs cells slots) (hx : p.tables.exec = Jvm.exec) {x y : Int32} (hd : decode c.code pc = .ok (.ior, 1)) (k : Go p e below P (T.setTop (mkF m (pc + 1) L (.int (x ||| y) :: st)))) : Go p e below P (T.setTop (mkF m pc L (.int y :: .int x :: st))) := Go.via (fun _ q => XT.ior X.here hx rfl hd rfl q) k
theorem ixor (X : Stand p l e R s m args below meth c T locs cells slots) (hx : p.tables.exec = Jvm.exec) {x y : Int32} (hd : decode c.code pc = .ok (.ixor, 1)) (k : Go p e below P (T.setTop (mkF m (pc + 1) L (.int (x ^^^ y) :: st)))) : Go p e below P (T.setTop (mkF m pc L (.int y :: .int x :: st))) := Go.via (fun _ q => XT.ixor X.here hx rfl hd rfl q) k
theorem ishl (X : Stand p l e R s m args below meth c T locs cells slots) (hx : p.tables.exec = Jvm.exec) {x y : Int32} (hd : decode c.code pc = .ok (.ishl, 1)) (k : Go p e below P (T.setTop (mkF m (pc + 1) L (.int (x <<< (y &&& 31)) :: st)))) : Go p e below P (T.setTop (mkF m pc L (.int y :: .int x :: st))) := Go.via (fun _ q => XT.ishl X.here hx rfl hd rfl q) k
theorem ishr (X : Stand p l e R s m args below meth c T locs cells slots) (hx : p.tables.exec = Jvm.exec) {x y : Int32} (hd : decode c.code pc = .ok (.ishr, 1)) (k : Go p e below P (T.setTop (mkF m (pc + 1) L (.int (x >>> (y &&& 31)) :: st)))) : Go p e below P (T.setTop (mkF m pc L (.int y :: .int x :: st))) := Go.via (fun _ q => XT.ishr X.here hx rfl hd rfl q) k
theorem iushr (X : Stand p l e R s m args below meth c T locs cells slots) (hx : p.tables.exec = Jvm.exec) {x y : Int32} (hd : decode c.code pc = .ok (.iushr, 1)) (k : Go p e below P (T.setTop (mkF m (pc + 1) L (.int (XT.ushr x y) :: st)))) : Go p e below P (T.setTop (mkF m pc L (.int y :: .int x :: st))) := Go.via (fun _ q => XT.iushr X.here hx rfl hd rfl q) k
theorem idiv (X : Stand p l e R s m args below meth c T locs cells slots) (hx : p.tables.exec = Jvm.exec) {x y : Int32} (hd : decode c.code pc = .ok (.idiv, 1)) (hy : y ≠ 0) (k : Go p e below P (T.setTop (mkF m (pc + 1) L (.int (x / y) :: st)))) : Go p e below P (T.setTop (mkF m pc L (.int y :: .int x :: st))) := Go.via (fun _ q => XS.idiv X.here hx rfl hd rfl hy q) k
theorem irem (X : Stand p l e R s m args below meth c T locs cells slots) (hx : p.tables.exec = Jvm.exec) {x y : Int32} (hd : decode c.code pc = .ok (.irem, 1)) (hy : y ≠ 0) (k : Go p e below P (T.setTop (mkF m (pc + 1) L (.int (x % y) :: st)))) : Go p e below P (T.setTop (mkF m pc L (.int y :: .int x :: st))) := Go.via (fun _ q => iremM X hx (g := mkF m pc L (.int y :: .int x :: st)) rfl hd rfl hy q) k
theorem ladd (X : Stand p l e R s m args below meth c T locs cells slots) (hx : p.tables.exec = Jvm.exec) {x y : Int64} (hd : decode c.code pc = .ok (.ladd, 1)) (k : Go p e below P (T.setTop (mkF m (pc + 1) L (.long (x + y) :: st)))) : Go p e below P (T.setTop (mkF m pc L (.long y :: .long x :: st))) := Go.via (fun _ q => XT.ladd X.here hx rfl hd rfl q) k
theorem lsub (X : Stand p l e R s m args below meth c T locs cells slots) (hx : p.tables.exec = Jvm.exec) {x y : Int64} (hd : decode c.code pc = .ok (.lsub, 1)) (k : Go p e below P (T.setTop (mkF m (pc + 1) L (.long (x - y) :: st)))) : Go p e below P (T.setTop (mkF m pc L (.long y :: .long x :: st))) := Go.via (fun _ q => XT.lsub X.here hx rfl hd rfl q) k
theorem lmul (X : Stand p l e R s m args below meth c T locs cells slots) (hx : p.tables.exec = Jvm.exec) {x y : Int64} (hd : decode c.code pc = .ok (.lmul, 1)) (k : Go p e below P (T.setTop (mkF m (pc + 1) L (.long (x * y) :: st)))) : Go p e below P (T.setTop (mkF m pc L (.long y :: .long x :: st))) := Go.via (fun _ q => XT.lmul X.here hx rfl hd rfl q) k
theorem land (X : Stand p l e R s m args below meth c T locs cells slots) (hx : p.tables.exec = Jvm.exec) {x y : Int64} (hd : decode c.code pc = .ok (.land, 1)) (k : Go p e below P (T.setTop (mkF m (pc + 1) L (.long (x &&& y) :: st)))) : Go p e below P (T.setTop (mkF m pc L (.long y :: .long x :: st))) := Go.via (fun _ q => XT.land X.here hx rfl hd rfl q) k
theorem lor (X : Stand p l e R s m args below meth c T locs cells slots) (hx : p.tables.exec = Jvm.exec) {x y : Int64} (hd : decode c.code pc = .ok (.lor, 1)) (k : Go p e below P (T.setTop (mkF m (pc + 1) L (.long (x ||| y) :: st)))) : Go p e below P (T.setTop (mkF m pc L (.long y :: .long x :: st))) := Go.via (fun _ q => XT.lor X.here hx rfl hd rfl q) k
theorem lxor (X : Stand p l e R s m args below meth c T locs cells slots) (hx : p.tables.exec = Jvm.exec) {x y : Int64} (hd : decode c.code pc = .ok (.lxor, 1)) (k : Go p e below P (T.setTop (mkF m (pc + 1) L (.long (x ^^^ y) :: st)))) : Go p e below P (T.setTop (mkF m pc L (.long y :: .long x :: st))) := Go.via (fun _ q => XT.lxor X.here hx rfl hd rfl q) k
theorem lshl (X : Stand p l e R s m args below meth c T locs cells slots) (hx : p.tables.exec = Jvm.exec) {x : Int64} {y : Int32} (hd : decode c.code pc = .ok (.lshl, 1)) (k : Go p e below P (T.setTop (mkF m (pc + 1) L (.long (x <<< (y.toInt64 &&& 63)) :: st)))) : Go p e below P (T.setTop (mkF m pc L (.int y :: .long x :: st))) := Go.via (fun _ q => XT.lshl X.here hx rfl hd rfl q) k
theorem lshr (X : Stand p l e R s m args below meth c T locs cells slots) (hx : p.tables.exec = Jvm.exec) {x : Int64} {y : Int32} (hd : decode c.code pc = .ok (.lshr, 1)) (k : Go p e below P (T.setTop (mkF m (pc + 1) L (.long (x >>> (y.toInt64 &&& 63)) :: st)))) : Go p e below P (T.setTop (mkF m pc L (.int y :: .long x :: st))) := Go.via (fun _ q => XT.lshr X.here hx rfl hd rfl q) k
theorem lushr (X : Stand p l e R s m args below meth c T locs cells slots) (hx : p.tables.exec = Jvm.exec) {x : Int64} {y : Int32} (hd : decode c.code pc = .ok (.lushr, 1)) (k : Go p e below P (T.setTop (mkF m (pc + 1) L (.long (XT.ushrL x y) :: st)))) : Go p e below P (T.setTop (mkF m pc L (.int y :: .long x :: st))) := Go.via (fun _ q => XT.lushr X.here hx rfl hd rfl q) k
theorem ldiv (X : Stand p l e R s m args below meth c T locs cells slots) (hx : p.tables.exec = Jvm.exec) {x y : Int64} (hd : decode c.code pc = .ok (.ldiv, 1)) (hy : y ≠ 0) (k : Go p e below P (T.setTop (mkF m (pc + 1) L (.long (x / y) :: st)))) : Go p e below P (T.setTop (mkF m pc L (.long y :: .long x :: st))) := Go.via (fun _ q => XT.ldiv X.here hx rfl hd rfl hy q) k
theorem lrem (X : Stand p l e R s m args below meth c T locs cells slots) (hx : p.tables.exec = Jvm.exec) {x y : Int64} (hd : decode c.code pc = .ok (.lrem, 1)) (hy : y ≠ 0) (k : Go p e below P (T.setTop (mkF m (pc + 1) L (.long (x % y) :: st)))) : Go p e below P (T.setTop (mkF m pc L (.long y :: .long x :: st))) := Go.via (fun _ q => XT.lrem X.here hx rfl hd rfl hy (by rw [lrem_mod]; exact q)) k
theorem ineg (X : Stand p l e R s m args below meth c T locs cells slots) (hx : p.tables.exec = Jvm.exec) {x : Int32} (hd : decode c.code pc = .ok (.ineg, 1)) (k : Go p e below P (T.setTop (mkF m (pc + 1) L (.int ((-x)) :: st)))) : Go p e below P (T.setTop (mkF m pc L (.int x :: st))) := Go.via (fun _ q => XS.ineg X.here hx rfl hd rfl q) k
theorem lneg (X : Stand p l e R s m args below meth c T locs cells slots) (hx : p.tables.exec = Jvm.exec) {x : Int64} (hd : decode c.code pc = .ok (.lneg, 1)) (k : Go p e below P (T.setTop (mkF m (pc + 1) L (.long ((-x)) :: st)))) : Go p e below P (T.setTop (mkF m pc L (.long x :: st))) := Go.via (fun _ q => XT.lneg X.here hx rfl hd rfl q) k
theorem i2l (X : Stand p l e R s m args below meth c T locs cells slots) (hx : p.tables.exec = Jvm.exec) {x : Int32} (hd : decode c.code pc = .ok (.i2l, 1)) (k : Go p e below P (T.setTop (mkF m (pc + 1) L (.long (x.toInt64) :: st)))) : Go p e below P (T.setTop (mkF m pc L (.int x :: st))) := Go.via (fun _ q => XT.i2l X.here hx rfl hd rfl q) k
theorem l2i (X : Stand p l e R s m args below meth c T locs cells slots) (hx : p.tables.exec = Jvm.exec) {x : Int64} (hd : decode c.code pc = .ok (.l2i, 1)) (k : Go p e below P (T.setTop (mkF m (pc + 1) L (.int (x.toInt32) :: st)))) : Go p e below P (T.setTop (mkF m pc L (.long x :: st))) := Go.via (fun _ q => XT.l2i X.here hx rfl hd rfl q) k
theorem i2b (X : Stand p l e R s m args below meth c T locs cells slots) (hx : p.tables.exec = Jvm.exec) {x : Int32} (hd : decode c.code pc = .ok (.i2b, 1)) (k : Go p e below P (T.setTop (mkF m (pc + 1) L (.int (x.toInt8.toInt32) :: st)))) : Go p e below P (T.setTop (mkF m pc L (.int x :: st))) := Go.via (fun _ q => XT.i2b X.here hx rfl hd rfl q) k
theorem i2c (X : Stand p l e R s m args below meth c T locs cells slots) (hx : p.tables.exec = Jvm.exec) {x : Int32} (hd : decode c.code pc = .ok (.i2c, 1)) (k : Go p e below P (T.setTop (mkF m (pc + 1) L (.int (x.toUInt32.toUInt16.toUInt32.toInt32) :: st)))) : Go p e below P (T.setTop (mkF m pc L (.int x :: st))) := Go.via (fun _ q => XT.i2c X.here hx rfl hd rfl q) k
theorem i2s (X : Stand p l e R s m args below meth c T locs cells slots) (hx : p.tables.exec = Jvm.exec) {x : Int32} (hd : decode c.code pc = .ok (.i2s, 1)) (k : Go p e below P (T.setTop (mkF m (pc + 1) L (.int (x.toInt16.toInt32) :: st)))) : Go p e below P (T.setTop (mkF m pc L (.int x :: st))) := Go.via (fun _ q => XT.i2s X.here hx rfl hd rfl q) k
theorem lcmp (X : Stand p l e R s m args below meth c T locs cells slots) (hx : p.tables.exec = Jvm.exec) {x y : Int64} (hd : decode c.code pc = .ok (.lcmp, 1)) (k : Go p e below P (T.setTop (mkF m (pc + 1) L (.int (XT.cmpL x y) :: st)))) : Go p e below P (T.setTop (mkF m pc L (.long y :: .long x :: st))) := Go.via (fun _ q => XT.lcmp X.here hx rfl hd rfl q) k
theorem iincV (X : Stand p l e R s m args below meth c T locs cells slots) (hx : p.tables.exec = Jvm.exec) {i : Nat} {d : Int} {x : Int32} (v w : Int32) (L' : Array Slot) (hd : decode c.code pc = .ok (.iinc i d, 3)) (hv : Int32.ofInt d = v) (hl : L[i]? = some (.val (.int x))) (hw : x + v = w) (hl' : storeLocals L i (.int w) = some L') (k : Go p e below P (T.setTop (mkF m (pc + 3) L' st))) : Go p e below P (T.setTop (mkF m pc L st)) := Go.via (fun _ q => XS.iinc X.here hx rfl hd hl (hv ▸ hw ▸ hl') q) k
theorem topI {x y : Int32} (q : x = y) (k : Go p e below P (T.setTop (mkF m pc L (.int y :: st)))) : Go p e below P (T.setTop (mkF m pc L (.int x :: st))) := q ▸ k
theorem topJ {x y : Int64} (q : x = y) (k : Go p e below P (T.setTop (mkF m pc L (.long y :: st)))) : Go p e below P (T.setTop (mkF m pc L (.long x :: st))) := q ▸ k
/-! returns -/
theorem leaveR (X : Stand p l e R s m args below meth c T locs cells slots) (hk : meth.locks = false) {Q : Option Value → Heap → List Loc → Prop} {k n : Nat} {g : JFrame} {v : Option Value} (hv : meth.sig.returnType = none → v = none) (eT : T.heap = h) (hQ : Q v h locs) (hc : cells ≤ k) (hn : slots ≤ n)
    (st : ∀ fs, (∀ (f : JFrame) (acts : List Action), f.method = m → f.locked = none → f.entered = [] → (doReturn e (T.setTop f) acts v).1 = T.setFrames fs) → Steps p.tables e below (T.setTop g) (T.setFrames fs)) : Go p e below (Fini s Q k n) (T.setTop g) := by
  obtain ⟨fs, hr, hrun, hended, hW, hsame⟩ := X.leave (v := v) hv hk
  exact ⟨_, _, st fs hr, hrun, hended, _, _, rfl, by show Q v T.heap locs; rw [eT]; exact hQ, ⟨_, rfl⟩, hW, hsame.mono hc hn⟩
theorem ireturn (X : Stand p l e R s m args below meth c T locs cells slots) (hx : p.tables.exec = Jvm.exec) (hk : meth.locks = false) {Q : Option Value → Heap → List Loc → Prop} {k n : Nat} {t : FieldType} {z : Int32} (hret : meth.sig.returnType = some t) (ht : t = .int ∨ t = .boolean ∨ t = .byte ∨ t = .char ∨ t = .short) (hnr : narrow t (.int z) = .int z) (hd : decode c.code pc = .ok (.ireturn, 1)) (eT : T.heap = h) (hQ : Q (some (.int z)) h locs) (hc : cells ≤ k) (hn : slots ≤ n) : Go p e below (Fini s Q k n) (T.setTop (mkF m pc L (.int z :: rest))) :=
  leaveR X hk (v := some (.int z)) (fun q => by rw [hret] at q; cases q) eT hQ hc hn fun fs hr => retOut X hx hret hnr (Or.inl ⟨rfl, ht, z, rfl⟩) hd hr
theorem lreturn (X : Stand p l e R s m args below meth c T locs cells slots) (hx : p.tables.exec = Jvm.exec) (hk : meth.locks = false) {Q : Option Value → Heap → List Loc → Prop} {k n : Nat} {z : Int64} (hret : meth.sig.returnType = some .long) (hd : decode c.code pc = .ok (.lreturn, 1)) (eT : T.heap = h) (hQ : Q (some (.long z)) h locs) (hc : cells ≤ k) (hn : slots ≤ n) : Go p e below (Fini s Q k n) (T.setTop (mkF m pc L (.long z :: rest))) :=
  leaveR X hk (v := some (.long z)) (fun q => by rw [hret] at q; cases q) eT hQ hc hn fun fs hr => retOut X hx hret rfl (Or.inr (Or.inl ⟨rfl, rfl, z, rfl⟩)) hd hr
theorem areturn (X : Stand p l e R s m args below meth c T locs cells slots) (hx : p.tables.exec = Jvm.exec) (hk : meth.locks = false) {Q : Option Value → Heap → List Loc → Prop} {k n : Nat} {t : FieldType} {z : Value} (hret : meth.sig.returnType = some t) (ht : t.isReference = true) (hz : z.isRef = true) (hnr : narrow t z = z) (hd : decode c.code pc = .ok (.areturn, 1)) (eT : T.heap = h) (hQ : Q (some z) h locs) (hc : cells ≤ k) (hn : slots ≤ n) : Go p e below (Fini s Q k n) (T.setTop (mkF m pc L (z :: rest))) :=
  leaveR X hk (v := some z) (fun q => by rw [hret] at q; cases q) eT hQ hc hn fun fs hr => retOut X hx hret hnr (Or.inr (Or.inr (Or.inr (Or.inr ⟨rfl, ht, hz⟩)))) hd hr
theorem vreturn (X : Stand p l e R s m args below meth c T locs cells slots) (hx : p.tables.exec = Jvm.exec) (hk : meth.locks = false) {Q : Option Value → Heap → List Loc → Prop} {k n : Nat} (hret : meth.sig.returnType = none) (hd : decode c.code pc = .ok (.return_, 1)) (eT : T.heap = h) (hQ : Q none h locs) (hc : cells ≤ k) (hn : slots ≤ n) : Go p e below (Fini s Q k n) (T.setTop (mkF m pc L [])) :=
  leaveR X hk (v := none) (fun _ => rfl) eT hQ hc hn fun fs hr => X.returnOut hx hret hd hr
/-! String constants: the start with the tables at hand -/
def FiniW (s : State) (Q : Option Value → Heap → List Loc → Prop) (k n : Nat) (o : Outcome) (U : State) : Prop :=
  ∃ v L, o = .returned v ∧ Q v U.heap L ∧ ReturnedEndW s o U L k n
def CtW (l : Launch) (y : MethodName) (bytes : ByteArray) (maxL : Nat) (ret : Option FieldType) (ws : List Jvm.Cond) (rm : Room) (Z : State) (as : Array Value) (h : Heap) (Q : Option Value → Heap → List Loc → Prop) : Prop :=
  MetFree l y (head1 (Jvm.Cond.code y bytes maxL ret :: ws) rm) (fun a U => a = as ∧ Z.Warmed39 U.vm ∧ U.heap = h) (fun _ _ _ _ _ => True) (fun _ U o U' => ∃ v L, o = .returned v ∧ Q v U'.heap L ∧ ReturnedEndW U o U' L rm.cells rm.slots)
theorem enterW {y : MethodName} {bytes : ByteArray} {maxL : Nat} {ret : Option FieldType} {ws : List Jvm.Cond} {rm : Room} {as : Array Value} {Q : Option Value → Heap → List Loc → Prop} (hy : plainFor y = true)
    (body : ∀ p e s m below meth c s₁, p.tables.exec = Jvm.exec → c.code = bytes → c.maxLocals = maxL → s.vm.findClass y.cls = some m.cls → meth.name = y.name → meth.sig.returnType = ret → meth.locks = false → Z.Warmed39 s.vm →
      Stand p l e rm s m as below meth c s₁ [] 0 0 → s₁.heap = h → Go p e below (FiniW s Q rm.cells rm.slots) (s₁.setTop (entryFrame m as maxL))) : CtW l y bytes maxL ret ws rm Z as h Q := by
  refine MetFree.of_bodySF hy hisR ?_
  intro p e s m args below meth c s₁ Bd hml hP hK
  obtain ⟨rfl, hZ, hh⟩ := hP
  exact body p e s m below meth c s₁ Bd.exec Bd.bytes hml (findClass_of_methodNamed Bd.named) (name_of_methodNamed Bd.named Bd.method).1 Bd.returns Bd.notSynchronized hZ (Stand.of_body Bd) (by rw [← hh, Bd.state]; rfl)
theorem since0 (s : State) : s.Since s.vm 0 := State.WarmedH.since (State.WarmedH.refl s) 0
theorem ldcStr {vm0 : Vm} (X : Stand p l e R (s.setVm vm0) m args below meth c T locs cells slots) (hx : p.tables.exec = Jvm.exec) (hZ : Z.Warmed39 vm0) {own text : String} {i : Nat} (hown : vm0.findClass own = some m.cls) (w : (Cond.stringLink own i text).before a0 Z = true) (wS : ∀ a ∈ Bundle.stringAtoms, a.before a0 Z = true)
    (eT : T.heap = h) {k0 : Nat} (hS : s.Since vm0 k0) (hk : k0 ≤ h.size) (hd : decode c.code pc = .ok (.ldc i, 2)) (n : Nat) (hn : 4 * text.toList.length ≤ n) (hbig : n ≤ 536870912) (hc : cells + 2 ≤ R.cells) (hl : slots + (n + 4) ≤ R.slots)
    (k : ∀ (a : Addr) (T' : State) (h' : Heap) (k1 : Nat), Stand p l e R (s.setVm T'.vm) m args below meth c T' locs (cells + 2) (slots + (n + 4)) → T'.heap = h' → Ext h h' → s.Since T'.vm k1 → k1 ≤ h'.size → Z.Warmed39 (s.setVm T'.vm).vm → (s.setVm T'.vm).vm.findClass own = some m.cls → Go p e below P (T'.setTop (mkF m (pc + 2) L (.ref a :: st)))) : Go p e below P (T.setTop (mkF m pc L st)) := by
  obtain ⟨a, T', h', k1, X', e', E, hS', hk', hZ', hown', q⟩ := ldcS X hx hZ hown w wS eT hS hk (g := mkF m pc L st) rfl hd hn hbig hc hl
  exact Go.via q (k a T' h' k1 X' e' E hS' hk' hZ' hown')
theorem ireturnW {vm0 : Vm} (X : Stand p l e R (s.setVm vm0) m args below meth c T locs cells slots) (hx : p.tables.exec = Jvm.exec) (hk : meth.locks = false) {Q : Option Value → Heap → List Loc → Prop} {k n : Nat} {t : FieldType} {z : Int32} (hret : meth.sig.returnType = some t) (ht : t = .int ∨ t = .boolean ∨ t = .byte ∨ t = .char ∨ t = .short) (hnr : narrow t (.int z) = .int z) (hd : decode c.code pc = .ok (.ireturn, 1)) (eT : T.heap = h) {k0 : Nat} (hS : s.Since vm0 k0) (hk0 : k0 ≤ h.size) (hQ : Q (some (.int z)) h locs) (hc : cells ≤ k) (hn : slots ≤ n) : Go p e below (FiniW s Q k n) (T.setTop (mkF m pc L (.int z :: rest))) := by
  obtain ⟨fs, hr, hrun, hended, hW⟩ := X.leaveW hS (by rw [eT]; exact hk0) (v := some (.int z)) (fun q => by rw [hret] at q; cases q) hk
  exact ⟨_, _, retOut X hx hret hnr (Or.inl ⟨rfl, ht, z, rfl⟩) hd hr, hrun, hended, _, _, rfl, by show Q (some (.int z)) T.heap locs; rw [eT]; exact hQ, hW.1, hW.2.1, hW.2.2.1, hW.2.2.2.mono hc hn⟩
/-! fields, objects -/
theorem getfield (X : Stand p l e R s m args below meth c T locs cells slots) (hx : p.tables.exec = Jvm.exec) (hZ : Z.Warmed39 s.vm) {own R0 O n d host : String} {i : Nat} (hown : s.vm.findClass own = some m.cls) (w : (Cond.fieldLink own i R0 n d).before a0 Z = true ∨ (Cond.fieldLinkNest own i R0 n d host).before a0 Z = true) (via : Via Z R0 O n d)
    (eT : T.heap = h) {a : Addr} {v : Value} (F : Fld Z h a O n d v) (hd : decode c.code pc = .ok (.getfield i, 3)) (k : ∀ T', Stand p l e R s m args below meth c T' locs cells slots → T'.heap = h → Go p e below P (T'.setTop (mkF m (pc + 3) L (v :: st)))) : Go p e below P (T.setTop (mkF m pc L (.ref a :: st))) := by
  obtain ⟨T', X', e', q⟩ := getF X hx hZ hown w via eT F (g := mkF m pc L (.ref a :: st)) rfl rfl hd
  exact Go.via q (k T' X' e')
theorem putfield (X : Stand p l e R s m args below meth c T locs cells slots) (hx : p.tables.exec = Jvm.exec) (hZ : Z.Warmed39 s.vm) {own R0 O n d host C : String} {i kk : Nat} {ty : FieldType} (hown : s.vm.findClass own = some m.cls) (w : (Cond.fieldLink own i R0 n d).before a0 Z = true ∨ (Cond.fieldLinkNest own i R0 n d host).before a0 Z = true) (via : Via Z R0 O n d)
    (eT : T.heap = h) {a : Addr} {v old : Value} (F : Fld Z h a O n d old) (E : Exa Z h a C) (Ly : (Cond.lays C O n d).before a0 Z = true ∨ ((Cond.laysFinal C O n d).before a0 Z = true ∧ own = O ∧ meth.name = "<init>")) (wi : (Cond.instantiable C kk).before a0 Z = true)
    (hty : parseFieldDescriptor d = some ty) (hn : narrow ty v = v) (hf : fits ty v = true) {n0 : Nat} (N : Fr n0 locs) (ga : n0 ≤ a) (hd : decode c.code pc = .ok (.putfield i, 3))
    (k : ∀ T' h', Stand p l e R s m args below meth c T' (locs ++ [⟨a, Jvm.RoadKit.slotOf Z O n d⟩]) cells slots → T'.heap = h' → Wr h h' a (Jvm.RoadKit.slotOf Z O n d) v → Fr n0 (locs ++ [⟨a, Jvm.RoadKit.slotOf Z O n d⟩]) → Fld Z h' a O n d v → Go p e below P (T'.setTop (mkF m (pc + 3) L st))) : Go p e below P (T.setTop (mkF m pc L (v :: .ref a :: st))) := by
  obtain ⟨T', h', X', e', W, q⟩ := putF X hx hZ hown w via eT F E Ly wi hty hn hf (g := mkF m pc L (v :: .ref a :: st)) rfl rfl hd
  exact Go.via q (k T' h' X' e' W (Fr.snoc X' N ga) (F.same W))
theorem putfieldN (X : Stand p l e R s m args below meth c T locs cells slots) (hx : p.tables.exec = Jvm.exec) (hZ : Z.Warmed39 s.vm) {own R0 O n d C : String} {i kk : Nat} {ty : FieldType} (hown : s.vm.findClass own = some m.cls) (w : (Cond.fieldLink own i R0 n d).before a0 Z = true) (via : Via Z R0 O n d)
    (eT : T.heap = h) {a : Addr} {v v' old : Value} (F : Fld Z h a O n d old) (E : Exa Z h a C) (Ly : (Cond.lays C O n d).before a0 Z = true ∨ ((Cond.laysFinal C O n d).before a0 Z = true ∧ own = O ∧ meth.name = "<init>")) (wi : (Cond.instantiable C kk).before a0 Z = true)
    (hty : parseFieldDescriptor d = some ty) (hn : narrow ty v = v') (hf : fits ty v' = true) {n0 : Nat} (N : Fr n0 locs) (ga : n0 ≤ a) (hd : decode c.code pc = .ok (.putfield i, 3))
    (k : ∀ T' h', Stand p l e R s m args below meth c T' (locs ++ [⟨a, Jvm.RoadKit.slotOf Z O n d⟩]) cells slots → T'.heap = h' → Wr h h' a (Jvm.RoadKit.slotOf Z O n d) v' → Fr n0 (locs ++ [⟨a, Jvm.RoadKit.slotOf Z O n d⟩]) → Fld Z h' a O n d v' → Go p e below P (T'.setTop (mkF m (pc + 3) L st))) : Go p e below P (T.setTop (mkF m pc L (v :: .ref a :: st))) := by
  obtain ⟨T', h', X', e', W, q⟩ := putFN X hx hZ hown w via eT F E Ly wi hty hn hf (g := mkF m pc L (v :: .ref a :: st)) rfl rfl hd
  exact Go.via q (k T' h' X' e' W (Fr.snoc X' N ga) (F.same W))
theorem newobj (X : Stand p l e R s m args below meth c T locs cells slots) (hx : p.tables.exec = Jvm.exec) (hZ : Z.Warmed39 s.vm) {own C : String} {i n : Nat} (hown : s.vm.findClass own = some m.cls) (w : (Cond.classLink own i C).before a0 Z = true) (wi : (Cond.instantiable C n).before a0 Z = true) (wz : (Cond.initialized C).before a0 Z = true) (eT : T.heap = h)
    (hd : decode c.code pc = .ok (.new i, 3)) (hc : cells + 1 ≤ R.cells) (hl : slots + n ≤ R.slots)
    (k : ∀ T' h' b, b = h.size → Stand p l e R s m args below meth c T' locs (cells + 1) (slots + n) → T'.heap = h' → Ext h h' → Exa Z h' b C → (∀ {O nm d : String} {ty : FieldType}, Laid Z a0 C O nm d → parseFieldDescriptor d = some ty → Fld Z h' b O nm d (defaultValue ty)) → Go p e below P (T'.setTop (mkF m (pc + 3) L (.ref b :: st)))) : Go p e below P (T.setTop (mkF m pc L st)) := by
  obtain ⟨T', h', X', e', E, A, D, -, q⟩ := newO X hx hZ hown w wi wz eT (g := mkF m pc L st) rfl hd hc hl
  exact Go.via q (k T' h' h.size rfl X' e' E A D)
theorem initObj (X : Stand p l e R s m args below meth c T locs cells slots) (hx : p.tables.exec = Jvm.exec) (hZ : Z.Warmed39 s.vm) {own : String} {i : Nat} (hown : s.vm.findClass own = some m.cls) (w1 : (Cond.methodLink own i Lib.objectInit).before a0 Z = true) (w2 : (Cond.instanceMethod Lib.objectInit).before a0 Z = true)
    (w3 : (Cond.code Lib.objectInit ⟨#[0xb1]⟩ 1 none).before a0 Z = true) (eT : T.heap = h) (hsize : L.size = c.maxLocals) {a : Addr} (hd : decode c.code pc = .ok (.invokespecial i, 3)) (hf : 1 ≤ R.frames) (W : Nat) (hW : (st.map fun v => v.category).sum ≤ W) (hl : W + 12 ≤ R.locals)
    (k : ∀ T', Stand p l e R s m args below meth c T' locs cells slots → T'.heap = h → Go p e below P (T'.setTop (mkF m (pc + 3) L st))) : Go p e below P (T.setTop (mkF m pc L (.ref a :: st))) := by
  obtain ⟨T', X', e', q⟩ := initO X hx hZ hown w1 w2 w3 eT (g := mkF m pc L (.ref a :: st)) rfl hsize rfl hd hf (W := W) (by show 2 * 0 + _ ≤ _; omega) hl
  exact Go.via q (k T' X' e')
/-! arrays -/
/-- the array at a holds just these values -/
def VArr (Z : State) (h : Heap) (a : Addr) (ty : FieldType) (vs : List Value) : Prop := ∃ c : Cell, Arr Z h a c ty ∧ c.slots = vs.toArray ∧ vs.length < 2 ^ 31
section VA
variable {h' : Heap} {a b : Addr} {ty : FieldType} {vs : List Value} {sl : Nat} {v : Value} {ws : List Addr}
theorem VArr.lt (F : VArr Z h a ty vs) : a < h.size := by obtain ⟨c, A, -⟩ := F; exact A.lt
theorem VArr.ext (F : VArr Z h a ty vs) (E : Ext h h') : VArr Z h' a ty vs := by obtain ⟨c, A, r⟩ := F; exact ⟨c, A.ext E, r⟩
theorem VArr.other (F : VArr Z h b ty vs) (W : Wr h h' a sl v) (q : b ≠ a) : VArr Z h' b ty vs := by obtain ⟨c, A, r⟩ := F; exact ⟨c, A.other W q, r⟩
theorem VArr.keep (F : VArr Z h a ty vs) (K : Keep h h' ws) (q : a ∉ ws) : VArr Z h' a ty vs := by obtain ⟨c, A, r⟩ := F; exact ⟨c, ⟨K.2.1 a c A.1 q, A.2⟩, r⟩
theorem VArr.same (F : VArr Z h a ty vs) (W : Wr h h' a sl v) : VArr Z h' a ty (vs.set sl v) := by
  obtain ⟨c, A, r1, r2⟩ := F
  refine ⟨c.setSlot sl v, A.same W, ?_, by simpa using r2⟩
  simp [Cell.setSlot, r1]
theorem neVE {C : String} {kk : Nat} (F : VArr Z h a ty vs) (E : Exa Z h b C) (wi : (Cond.instantiable C kk).before a0 Z = true) : a ≠ b := by
  obtain ⟨c, A, -⟩ := F
  exact (ne_arr E wi A).symm
end VA
theorem in_of {vs : List Value} {v : Value} {i : Nat} {j : Int32} {c : Cell} (hn : ¬ j < 0) (hi : j.toNatClampNeg = i) (hv : vs[i]? = some v) (r : c.slots = vs.toArray) : ¬ (j < 0 ∨ c.slots.size ≤ j.toNatClampNeg) ∧ c.slots[j.toNatClampNeg]? = some v := by
  have hlt : i < vs.length := by
    obtain ⟨q, -⟩ := List.getElem?_eq_some_iff.mp hv
    exact q
  refine ⟨fun q => ?_, ?_⟩
  · rcases q with q | q
    · exact hn q
    · rw [r, hi] at q; simp at q; omega
  · rw [hi, r]; simpa using hv
theorem in_of' {vs : List Value} {i : Nat} {j : Int32} {c : Cell} (hn : ¬ j < 0) (hi : j.toNatClampNeg = i) (hv : i < vs.length) (r : c.slots = vs.toArray) : ¬ (j < 0 ∨ c.slots.size ≤ j.toNatClampNeg) := by
  intro q
  rcases q with q | q
  · exact hn q
  · rw [r, hi] at q; simp at q; omega
theorem alen (X : Stand p l e R s m args below meth c T locs cells slots) (hx : p.tables.exec = Jvm.exec) (hZ : Z.Warmed39 s.vm) (eT : T.heap = h) {a : Addr} {ty : FieldType} {vs : List Value} (V : VArr Z h a ty vs) (n : Int32) (hn : vs.length.toInt32 = n) (hd : decode c.code pc = .ok (.arraylength, 1)) (k : Go p e below P (T.setTop (mkF m (pc + 1) L (.int n :: st)))) : Go p e below P (T.setTop (mkF m pc L (.ref a :: st))) := by
  obtain ⟨cl, A, r1, -⟩ := V
  have q : cl.slots.size.toInt32 = n := by rw [r1]; simpa using hn
  exact Go.via (fun t w => X.arraylength hx (cell := cl) (by rw [eT]; exact A.1) (State.isArrayOf_alike hZ.alike A.2.1) (g := mkF m pc L (.ref a :: st)) rfl rfl hd t (by rw [q]; exact w)) k
theorem iaload (X : Stand p l e R s m args below meth c T locs cells slots) (hx : p.tables.exec = Jvm.exec) (hZ : Z.Warmed39 s.vm) (eT : T.heap = h) {a : Addr} {vs : List Value} (V : VArr Z h a .int vs) {j : Int32} {v : Value} (i : Nat) (hn : ¬ j < 0) (hi : j.toNatClampNeg = i) (hv : vs[i]? = some v) (hd : decode c.code pc = .ok (.iaload, 1)) (k : Go p e below P (T.setTop (mkF m (pc + 1) L (v :: st)))) : Go p e below P (T.setTop (mkF m pc L (.int j :: .ref a :: st))) := by
  obtain ⟨cl, A, r1, -⟩ := V
  obtain ⟨q1, q2⟩ := in_of hn hi hv r1
  exact Go.via (fun t w => X.iaload hx (by rw [eT]; exact A.1) (State.isArrayOf_alike hZ.alike A.2.1) A.2.2 q1 q2 (g := mkF m pc L (.int j :: .ref a :: st)) rfl rfl hd t w) k
theorem laload (X : Stand p l e R s m args below meth c T locs cells slots) (hx : p.tables.exec = Jvm.exec) (hZ : Z.Warmed39 s.vm) (eT : T.heap = h) {a : Addr} {vs : List Value} (V : VArr Z h a .long vs) {j : Int32} {v : Value} (i : Nat) (hn : ¬ j < 0) (hi : j.toNatClampNeg = i) (hv : vs[i]? = some v) (hd : decode c.code pc = .ok (.laload, 1)) (k : Go p e below P (T.setTop (mkF m (pc + 1) L (v :: st)))) : Go p e below P (T.setTop (mkF m pc L (.int j :: .ref a :: st))) := by
  obtain ⟨cl, A, r1, -⟩ := V
  obtain ⟨q1, q2⟩ := in_of hn hi hv r1
  exact Go.via (fun t w => X.laload hx (by rw [eT]; exact A.1) (State.isArrayOf_alike hZ.alike A.2.1) A.2.2 q1 q2 (g := mkF m pc L (.int j :: .ref a :: st)) rfl rfl hd t w) k
theorem baload (X : Stand p l e R s m args below meth c T locs cells slots) (hx : p.tables.exec = Jvm.exec) (hZ : Z.Warmed39 s.vm) (eT : T.heap = h) {a : Addr} {vs : List Value} (V : VArr Z h a .byte vs) {j : Int32} {v : Value} (i : Nat) (hn : ¬ j < 0) (hi : j.toNatClampNeg = i) (hv : vs[i]? = some v) (hd : decode c.code pc = .ok (.baload, 1)) (k : Go p e below P (T.setTop (mkF m (pc + 1) L (v :: st)))) : Go p e below P (T.setTop (mkF m pc L (.int j :: .ref a :: st))) := by
  obtain ⟨cl, A, r1, -⟩ := V
  obtain ⟨q1, q2⟩ := in_of hn hi hv r1
  exact Go.via (fun t w => X.baloadBytes hx (by rw [eT]; exact A.1) (State.isArrayOf_alike hZ.alike A.2.1) A.2.2 q1 q2 (g := mkF m pc L (.int j :: .ref a :: st)) rfl rfl hd t w) k
theorem iastore (X : Stand p l e R s m args below meth c T locs cells slots) (hx : p.tables.exec = Jvm.exec) (hZ : Z.Warmed39 s.vm) (eT : T.heap = h) {a : Addr} {vs : List Value} (V : VArr Z h a .int vs) {j x : Int32} (i : Nat) (hn : ¬ j < 0) (hi : j.toNatClampNeg = i) (hv : i < vs.length) {n0 : Nat} (N : Fr n0 locs) (ga : n0 ≤ a) (hd : decode c.code pc = .ok (.iastore, 1))
    (k : ∀ T' h', Stand p l e R s m args below meth c T' (locs ++ [⟨a, i⟩]) cells slots → T'.heap = h' → Wr h h' a i (.int x) → Fr n0 (locs ++ [⟨a, i⟩]) → VArr Z h' a .int (vs.set i (.int x)) → Go p e below P (T'.setTop (mkF m (pc + 1) L st))) : Go p e below P (T.setTop (mkF m pc L (.int x :: .int j :: .ref a :: st))) := by
  have V0 := V
  obtain ⟨cl, A, r1, -⟩ := V
  obtain ⟨T', h', X', e', W, q⟩ := stI X hx hZ eT A (in_of' hn hi hv r1) (g := mkF m pc L (.int x :: .int j :: .ref a :: st)) rfl rfl hd
  rw [hi] at X' W
  exact Go.via q (k T' h' X' e' W (Fr.snoc X' N ga) (V0.same W))
theorem lastore (X : Stand p l e R s m args below meth c T locs cells slots) (hx : p.tables.exec = Jvm.exec) (hZ : Z.Warmed39 s.vm) (eT : T.heap = h) {a : Addr} {vs : List Value} (V : VArr Z h a .long vs) {j : Int32} {x : Int64} (i : Nat) (hn : ¬ j < 0) (hi : j.toNatClampNeg = i) (hv : i < vs.length) {n0 : Nat} (N : Fr n0 locs) (ga : n0 ≤ a) (hd : decode c.code pc = .ok (.lastore, 1))
    (k : ∀ T' h', Stand p l e R s m args below meth c T' (locs ++ [⟨a, i⟩]) cells slots → T'.heap = h' → Wr h h' a i (.long x) → Fr n0 (locs ++ [⟨a, i⟩]) → VArr Z h' a .long (vs.set i (.long x)) → Go p e below P (T'.setTop (mkF m (pc + 1) L st))) : Go p e below P (T.setTop (mkF m pc L (.long x :: .int j :: .ref a :: st))) := by
  have V0 := V
  obtain ⟨cl, A, r1, -⟩ := V
  obtain ⟨T', h', X', e', W, q⟩ := stJ X hx hZ eT A (in_of' hn hi hv r1) (g := mkF m pc L (.long x :: .int j :: .ref a :: st)) rfl rfl hd
  rw [hi] at X' W
  exact Go.via q (k T' h' X' e' W (Fr.snoc X' N ga) (V0.same W))
theorem bastore (X : Stand p l e R s m args below meth c T locs cells slots) (hx : p.tables.exec = Jvm.exec) (hZ : Z.Warmed39 s.vm) (eT : T.heap = h) {a : Addr} {vs : List Value} (V : VArr Z h a .byte vs) {j x : Int32} (i : Nat) (hn : ¬ j < 0) (hi : j.toNatClampNeg = i) (hv : i < vs.length) {n0 : Nat} (N : Fr n0 locs) (ga : n0 ≤ a) (hd : decode c.code pc = .ok (.bastore, 1))
    (k : ∀ T' h', Stand p l e R s m args below meth c T' (locs ++ [⟨a, i⟩]) cells slots → T'.heap = h' → Wr h h' a i (.int x.toInt8.toInt32) → Fr n0 (locs ++ [⟨a, i⟩]) → VArr Z h' a .byte (vs.set i (.int x.toInt8.toInt32)) → Go p e below P (T'.setTop (mkF m (pc + 1) L st))) : Go p e below P (T.setTop (mkF m pc L (.int x :: .int j :: .ref a :: st))) := by
  have V0 := V
  obtain ⟨cl, A, r1, -⟩ := V
  obtain ⟨T', h', X', e', W, q⟩ := stB X hx hZ eT A (in_of' hn hi hv r1) (g := mkF m pc L (.int x :: .int j :: .ref a :: st)) rfl rfl hd
  rw [hi] at X' W
  exact Go.via q (k T' h' X' e' W (Fr.snoc X' N ga) (V0.same W))
theorem newarr (X : Stand p l e R s m args below meth c T locs cells slots) (hx : p.tables.exec = Jvm.exec) (hZ : Z.Warmed39 s.vm) {aty : ArrayType} (w : (Cond.arrayClass (newarray.typeOf aty)).before a0 Z = true) (eT : T.heap = h) (hd : decode c.code pc = .ok (.newarray aty, 2)) {n : Int32} (hn : ¬ n < 0) (i cap : Nat) (hi : n.toNatClampNeg = i) (hcap : i ≤ cap) (hb : cap * 8 ≤ 536870912) (hc : cells + 1 ≤ R.cells) (hl : slots + cap ≤ R.slots)
    (k : ∀ T' h' b, b = h.size → Stand p l e R s m args below meth c T' locs (cells + 1) (slots + cap) → T'.heap = h' → Ext h h' → VArr Z h' b (newarray.typeOf aty) (List.replicate i (defaultValue (newarray.typeOf aty))) → Go p e below P (T'.setTop (mkF m (pc + 2) L (.ref b :: st)))) : Go p e below P (T.setTop (mkF m pc L (.int n :: st))) := by
  obtain ⟨T', h', cA, X', e', E, A, q⟩ := newP X hx hZ w eT (g := mkF m pc L (.int n :: st)) rfl hd rfl hn (cap := cap) (by rw [hi]; exact hcap) hb hc hl
  refine Go.via q (k T' h' h.size rfl X' e' E ⟨_, A, ?_, ?_⟩)
  · simp [newA, hi]
  · simp; omega
/-! calls -/
theorem callStatic (X : Stand p l e R s m args below meth c T locs cells slots) (hx : p.tables.exec = Jvm.exec) (hZ : Z.Warmed39 s.vm) {own : String} {i : Nat} {y : MethodName} {bytes : ByteArray} {maxL : Nat} {ret : Option FieldType} {rm : Room} {Q : Option Value → Heap → List Loc → Prop}
    (hown : s.vm.findClass own = some m.cls) (w1 : (Cond.methodLink own i y).before a0 Z = true) (w2 : (Cond.static y).before a0 Z = true) (w3 : (Cond.initialized y.cls).before a0 Z = true) (w4 : (Cond.code y bytes maxL ret).before a0 Z = true) (hy : y.cls ≠ "java/lang/invoke/MethodHandle" ∧ y.cls ≠ "java/lang/invoke/VarHandle")
    (W : Nat) (argsL rest : List Value) (hM : Ct l y bytes maxL ret [] rm Z argsL.toArray h Q) (hf : rm.frames + 1 ≤ R.frames) (hl : W + (maxL + 11) + rm.locals ≤ R.locals) (eT : T.heap = h) (hsize : L.size = c.maxLocals) {ps : List FieldType} {rt : Option FieldType} (pd : parseMethodDescriptor y.desc = some ⟨ps, rt⟩) (hlen : argsL.length = ps.length) (hst : st = argsL.reverse ++ rest) (hW : (rest.map fun v => v.category).sum ≤ W)
    (hd : decode c.code pc = .ok (.invokestatic i, 3)) (hc : cells + rm.cells ≤ R.cells) (hn : slots + rm.slots ≤ R.slots)
    (k : ∀ T' L' v, Stand p l e R s m args below meth c T' (locs ++ L') (cells + rm.cells) (slots + rm.slots) → Q v T'.heap L' → Go p e below P (T'.setTop (mkF m (pc + 3) L (v.toList ++ rest)))) : Go p e below P (T.setTop (mkF m pc L st)) := by
  obtain ⟨v, _, ⟨T', L', k', n'⟩, -, X', ⟨Lc, hQ, l1, y1, z1⟩, q⟩ := Jvm.LawKit.callS X hx (y := y) hown (mvT hZ w1) (mvT hZ w2) (mvT hZ w3) (mvT hZ w4) hy (backOf (W := W) hM hZ w4 w3 hf hl) (g := mkF m pc L st) rfl hsize (argsL := argsL) (rest := rest) (lenOf pd hlen) hst (by show 2 * 0 + _ ≤ _; omega) hd (fun _ _ => ⟨rfl, eT, hc, hn⟩)
  dsimp only [Pt.U, Pt.locs, Pt.cells, Pt.slots] at X' l1 y1 z1 q hQ
  subst l1 y1 z1
  exact Go.via q (k T' Lc v X' hQ)
theorem callSpecial (X : Stand p l e R s m args below meth c T locs cells slots) (hx : p.tables.exec = Jvm.exec) (hZ : Z.Warmed39 s.vm) {own : String} {i : Nat} {y : MethodName} {bytes : ByteArray} {maxL : Nat} {rm : Room} {Q : Option Value → Heap → List Loc → Prop} (hy1 : y.name = "<init>")
    (hown : s.vm.findClass own = some m.cls) (w1 : (Cond.methodLink own i y).before a0 Z = true) (w2 : (Cond.instanceMethod y).before a0 Z = true) (w3 : (Cond.initialized y.cls).before a0 Z = true) (w4 : (Cond.code y bytes maxL none).before a0 Z = true) (hy : y.cls ≠ "java/lang/invoke/MethodHandle" ∧ y.cls ≠ "java/lang/invoke/VarHandle")
    (W : Nat) (a : Addr) (argsL rest : List Value) (hM : Ct l y bytes maxL none [] rm Z (.ref a :: argsL).toArray h Q) (hf : rm.frames + 1 ≤ R.frames) (hl : W + (maxL + 11) + rm.locals ≤ R.locals) (eT : T.heap = h) (hsize : L.size = c.maxLocals) {ps : List FieldType} {rt : Option FieldType} (pd : parseMethodDescriptor y.desc = some ⟨ps, rt⟩) (hlen : argsL.length = ps.length) (hst : st = argsL.reverse ++ .ref a :: rest) (hW : (rest.map fun v => v.category).sum ≤ W)
    (hd : decode c.code pc = .ok (.invokespecial i, 3)) (hc : cells + rm.cells ≤ R.cells) (hn : slots + rm.slots ≤ R.slots)
    (k : ∀ T' L' v, Stand p l e R s m args below meth c T' (locs ++ L') (cells + rm.cells) (slots + rm.slots) → Q v T'.heap L' → Go p e below P (T'.setTop (mkF m (pc + 3) L (v.toList ++ rest)))) : Go p e below P (T.setTop (mkF m pc L st)) := by
  obtain ⟨v, _, ⟨T', L', k', n'⟩, -, X', ⟨Lc, hQ, l1, y1, z1⟩, q⟩ := X.specialBack hx (y := y) hy1 hown (mvT hZ w1) (mvT hZ w2) (mvT hZ w4) hy (backOf (W := W) hM hZ w4 w3 hf hl) (g := mkF m pc L st) rfl hsize (Steps.refl _) (a := a) (argsL := argsL) (rest := rest) (lenOf pd hlen) hst (by show 2 * 0 + _ ≤ _; omega) hd (fun _ _ => ⟨rfl, eT, hc, hn⟩)
  dsimp only [Pt.U, Pt.locs, Pt.cells, Pt.slots] at X' l1 y1 z1 q hQ
  subst l1 y1 z1
  exact Go.tr q (k T' Lc v X' hQ)
theorem callVirtual (X : Stand p l e R s m args below meth c T locs cells slots) (hx : p.tables.exec = Jvm.exec) (hZ : Z.Warmed39 s.vm) {own C : String} {i : Nat} {y z : MethodName} {bytes : ByteArray} {maxL : Nat} {ret : Option FieldType} {rm : Room} {Q : Option Value → Heap → List Loc → Prop}
    (hown : s.vm.findClass own = some m.cls) (w1 : (Cond.methodLink own i y).before a0 Z = true) (w2 : (Cond.declares y).before a0 Z = true) (w3 : (Cond.selects C y z).before a0 Z = true) (w5 : (Cond.instanceMethod z).before a0 Z = true) (w6 : (Cond.initialized z.cls).before a0 Z = true) (w4 : (Cond.code z bytes maxL ret).before a0 Z = true) (w7 : (Cond.selects y.cls y y).before a0 Z = true) (hy : y.cls ≠ "java/lang/invoke/MethodHandle" ∧ y.cls ≠ "java/lang/invoke/VarHandle")
    (W : Nat) (a : Addr) (argsL rest : List Value) (E : Exa Z h a C) (hM : Ct l z bytes maxL ret [] rm Z (.ref a :: argsL).toArray h Q) (hf : rm.frames + 1 ≤ R.frames) (hl : W + (maxL + 11) + rm.locals ≤ R.locals) (eT : T.heap = h) (hsize : L.size = c.maxLocals) {ps : List FieldType} {rt : Option FieldType} (pd : parseMethodDescriptor y.desc = some ⟨ps, rt⟩) (hlen : argsL.length = ps.length) (hst : st = argsL.reverse ++ .ref a :: rest) (hW : (rest.map fun v => v.category).sum ≤ W)
    (hd : decode c.code pc = .ok (.invokevirtual i, 3)) (hc : cells + rm.cells ≤ R.cells) (hn : slots + rm.slots ≤ R.slots)
    (k : ∀ T' L' v, Stand p l e R s m args below meth c T' (locs ++ L') (cells + rm.cells) (slots + rm.slots) → Q v T'.heap L' → Go p e below P (T'.setTop (mkF m (pc + 3) L (v.toList ++ rest)))) : Go p e below P (T.setTop (mkF m pc L st)) := by
  obtain ⟨cq, kq, qa, qb, qc⟩ := isOf hZ eT E
  obtain ⟨v, _, ⟨T', L', k', n'⟩, -, X', ⟨Lc, hQ, l1, y1, z1⟩, q⟩ := X.virtualBack hx (y := y) (z := z) hown (mvT hZ w1) (mvT hZ w2) (notFace_of_selects (args := #[]) (mvT hZ w7)) (mvT hZ w3) (mvT hZ w5) hy (backOf (W := W) hM hZ w4 w6 hf hl) qa qc (g := mkF m pc L st) rfl hsize (Steps.refl _) (argsL := argsL) (rest := rest) (lenOf pd hlen) hst (by show 2 * 0 + _ ≤ _; omega) hd (fun _ _ => ⟨rfl, eT, hc, hn⟩)
  dsimp only [Pt.U, Pt.locs, Pt.cells, Pt.slots] at X' l1 y1 z1 q hQ
  subst l1 y1 z1
  exact Go.tr q (k T' Lc v X' hQ)
theorem callPrivate (X : Stand p l e R s m args below meth c T locs cells slots) (hx : p.tables.exec = Jvm.exec) (hZ : Z.Warmed39 s.vm) {own C : String} {i kk : Nat} {y : MethodName} {bytes : ByteArray} {maxL : Nat} {ret : Option FieldType} {rm : Room} {Q : Option Value → Heap → List Loc → Prop}
    (hown : s.vm.findClass own = some m.cls) (w1 : (Cond.methodLink own i y).before a0 Z = true) (w2 : (Cond.instanceMethod y).before a0 Z = true) (w3 : (Cond.privateMethod y).before a0 Z = true) (w5 : (Cond.instantiable y.cls kk).before a0 Z = true) (w6 : (Cond.initialized y.cls).before a0 Z = true) (w4 : (Cond.code y bytes maxL ret).before a0 Z = true) (hy : y.cls ≠ "java/lang/invoke/MethodHandle" ∧ y.cls ≠ "java/lang/invoke/VarHandle")
    (W : Nat) (a : Addr) (argsL rest : List Value) (E : Exa Z h a C) (hM : Ct l y bytes maxL ret [] rm Z (.ref a :: argsL).toArray h Q) (hf : rm.frames + 1 ≤ R.frames) (hl : W + (maxL + 11) + rm.locals ≤ R.locals) (eT : T.heap = h) (hsize : L.size = c.maxLocals) {ps : List FieldType} {rt : Option FieldType} (pd : parseMethodDescriptor y.desc = some ⟨ps, rt⟩) (hlen : argsL.length = ps.length) (hst : st = argsL.reverse ++ .ref a :: rest) (hW : (rest.map fun v => v.category).sum ≤ W)
    (hd : decode c.code pc = .ok (.invokevirtual i, 3)) (hc : cells + rm.cells ≤ R.cells) (hn : slots + rm.slots ≤ R.slots)
    (k : ∀ T' L' v, Stand p l e R s m args below meth c T' (locs ++ L') (cells + rm.cells) (slots + rm.slots) → Q v T'.heap L' → Go p e below P (T'.setTop (mkF m (pc + 3) L (v.toList ++ rest)))) : Go p e below P (T.setTop (mkF m pc L st)) := by
  have hP : s.PrivateAt y := Cond.privateMethod_at (args := #[]) (mvP hZ w3)
  have hsel : (Cond.selects y.cls y y).before args s = true := by
    have q : (Cond.instantiable y.cls kk).before args s = true := mvT hZ w5
    obtain ⟨c2, k2, i1, i2, -, i4, -⟩ := Cond.instantiable_spec q
    rw [Bool.or_eq_false_iff] at i4
    exact selects_self_of_private i1 i2 i4.1 hP (mvT hZ w2) hy
  obtain ⟨ce, he1, he2⟩ := E.cell
  obtain ⟨v, _, ⟨T', L', k', n'⟩, -, X', ⟨Lc, hQ, l1, y1, z1⟩, q⟩ := X.privateBack hx (y := y) hown (mvT hZ w1) (mvT hZ w2) hsel hP (mvT hZ w4) hy (backOf (W := W) hM hZ w4 w6 hf hl) (g := mkF m pc L st) rfl hsize (Steps.refl _) (a := a) (cell := ce) (by rw [eT]; exact he1) he2 (argsL := argsL) (rest := rest) (lenOf pd hlen) hst (by show 2 * 0 + _ ≤ _; omega) hd (fun _ _ => ⟨rfl, eT, hc, hn⟩)
  dsimp only [Pt.U, Pt.locs, Pt.cells, Pt.slots] at X' l1 y1 z1 q hQ
  subst l1 y1 z1
  exact Go.tr q (k T' Lc v X' hQ)
theorem getstatic (X : Stand p l e R s m args below meth c T locs cells slots) (hx : p.tables.exec = Jvm.exec) (hZ : Z.Warmed39 s.vm) {own R0 O n d : String} {i : Nat} (hown : s.vm.findClass own = some m.cls) (w : (Cond.fieldLink own i R0 n d).before a0 Z = true) (via : Via Z R0 O n d)
    (eT : T.heap = h) {v : Value} (F : Sta Z h O n d v) (hd : decode c.code pc = .ok (.getstatic i, 3)) (k : ∀ T', Stand p l e R s m args below meth c T' locs cells slots → T'.heap = h → Go p e below P (T'.setTop (mkF m (pc + 3) L (v :: st)))) : Go p e below P (T.setTop (mkF m pc L st)) := by
  obtain ⟨T', X', e', q⟩ := getS X hx hZ (host := "") hown w via eT F (g := mkF m pc L st) rfl hd
  exact Go.via q (k T' X' e')
theorem ldcFloat (X : Stand p l e R s m args below meth c T locs cells slots) (hx : p.tables.exec = Jvm.exec) (hZ : Z.Warmed39 s.vm) {own : String} {i : Nat} {b : UInt32} (hown : s.vm.findClass own = some m.cls) (w : (Cond.constantFloat own i b).before a0 Z = true) (hd : decode c.code pc = .ok (.ldc i, 2)) (k : Go p e below P (T.setTop (mkF m (pc + 2) L (.float b :: st)))) : Go p e below P (T.setTop (mkF m pc L st)) := Go.via (fun t q => X.ldcFloatC hx hown (mvT hZ w) (g := mkF m pc L st) rfl hd t q) k
theorem staKeep {O n d C : String} {v : Value} {h' : Heap} {a : Addr} (F : Sta Z h O n d v) (K : Keep h h' [a]) (E : Exa Z h a C) : Sta Z h' O n d v := by
  obtain ⟨cf, i, k, f, st, cell, h1, h2, h3, h4, h5, h6, h7⟩ := F
  obtain ⟨c2, k2, e1, -, -, e4, -⟩ := E
  have ne : st ∉ [a] := fun q => by
    cases List.mem_singleton.mp q
    cases h5.symm.trans e1
    rw [h6] at e4; cases e4
  exact ⟨cf, i, k, f, st, cell, h1, h2, h3, h4, K.2.1 _ _ h5 ne, h6, h7⟩
end Walk
end Jvm.Own
namespace Jvm.Pilot.@@N@@
open Jvm Jvm.ClassFile Sem Op Lib Jvm.Free Jvm.Stand Jvm.LawKit Jvm.RoadKit Bundle Jvm.Pilot.@@N@@.Jvm.D
theorem Wd {a0 : Array Value} {Z : State} (hw : ∀ d ∈ tables_1, d.before a0 Z = true) (i : Nat) {d : Jvm.Cond} (h : tables_1[i]? = some d) : d.before a0 Z = true := hw _ (List.mem_of_getElem? h)

theorem own_nn {x : Int32} (h : 0 ≤ x.toInt) : ¬ x < 0 := fun q => by
  have := Int32.lt_iff_toInt_lt.mp q
  have h0 : (0 : Int32).toInt = 0 := by decide
  omega
theorem own_s0 (a : Int32) : 0 ≤ (a &&& (7 : Int32)).toInt ∧ (a &&& (7 : Int32)).toInt ≤ 7 := c_and a 7 (by decide)
theorem own_s (x y : Int32) (B : Int) (h : 0 ≤ x.toInt ∧ x.toInt ≤ B) (hB : B ≤ 1000) : x.toInt ≤ (x + (y &&& (3 : Int32))).toInt ∧ (x + (y &&& (3 : Int32))).toInt ≤ B + 3 := by
  have a := c_iadd x (y &&& (3 : Int32))
  have b := c_and y 3 (by decide)
  have h3 : (3 : Int32).toInt = 3 := by decide
  have r := rng32 (x + (y &&& (3 : Int32)))
  omega
theorem own_p (k y : Int32) (K : Int) (hk : k.toInt = K) (h : 0 ≤ K ∧ K ≤ 100) : (k + (y &&& (1 : Int32))).toInt = K ∨ (k + (y &&& (1 : Int32))).toInt = K + 1 := by
  have a := c_iadd k (y &&& (1 : Int32))
  have b := c_and y 1 (by decide)
  have h3 : (1 : Int32).toInt = 1 := by decide
  have r := rng32 (k + (y &&& (1 : Int32)))
  omega
theorem own_p0 (y : Int32) : (y &&& (1 : Int32)).toInt = 0 ∨ (y &&& (1 : Int32)).toInt = 0 + 1 := by
  have b := c_and y 1 (by decide)
  have h3 : (1 : Int32).toInt = 1 := by decide
  omega
theorem own_n (p : Int32) {x : Int32} (e : (p &&& (7 : Int32)) % (5 : Int32) = x) : x = 0 ∨ x = 1 ∨ x = 2 ∨ x = 3 ∨ x = 4 := by
  have h := c_and p 7 (by decide)
  have h5 : (5 : Int32).toInt = 5 := by decide
  have c := (c_iremV (p &&& (7 : Int32)) (5 : Int32)).1 h.1 (by omega)
  rw [e] at c
  have q : x.toInt = 0 ∨ x.toInt = 1 ∨ x.toInt = 2 ∨ x.toInt = 3 ∨ x.toInt = 4 := by omega
  rcases q with q | q | q | q | q
  · exact Or.inl (Int32.toInt_inj.mp q)
  · exact Or.inr (Or.inl (Int32.toInt_inj.mp q))
  · exact Or.inr (Or.inr (Or.inl (Int32.toInt_inj.mp q)))
  · exact Or.inr (Or.inr (Or.inr (Or.inl (Int32.toInt_inj.mp q))))
  · exact Or.inr (Or.inr (Or.inr (Or.inr (Int32.toInt_inj.mp q))))
theorem own_ge {p : Int32} {K : Int} (h : p.toInt = K ∨ p.toInt = K + 1) (hK : 0 ≤ K) : ¬ p < 0 := own_nn (by omega)
theorem own_pick {p : Int32} {K : Nat} {vs : List Value} {x y : Int32} (h : p.toInt = K ∨ p.toInt = K + 1) (hx : vs[K]? = some (.int x)) (hy : vs[K + 1]? = some (.int y)) : vs[p.toNatClampNeg]? = some (.int (if p.toInt = K then x else y)) := by
  have e : p.toNatClampNeg = p.toInt.toNat := rfl
  rw [e]
  rcases h with h | h
  · rw [if_pos h, h]; simpa using hx
  · rw [if_neg (by omega), h]; simpa using hy
theorem own_mono {p q node x y z w : Int32} {K J : Int} (h1 : x.toInt ≤ z.toInt) (h2 : x.toInt ≤ w.toInt) (h3 : y.toInt ≤ z.toInt) (h4 : y.toInt ≤ w.toInt) : (if q.toInt = J then z else w) < node → (if p.toInt = K then x else y) < node := by
  rw [Int32.lt_iff_toInt_lt, Int32.lt_iff_toInt_lt]
  split <;> split <;> omega
theorem d2_0 : decode jdk_30_method_1_code 0 = .ok (.aload_n 0, 1) := by decide +kernel
theorem d2_1 : decode jdk_30_method_1_code 1 = .ok (.invokespecial 1, 3) := by decide +kernel
theorem d2_4 : decode jdk_30_method_1_code 4 = .ok (.return_, 1) := by decide +kernel
theorem ef_rm2 (m : MethodId) (o : Addr) : entryFrame m #[(.ref o)] 1 = mkF m 0 #[.val (.ref o)] [] := by first | (simp [entryFrame, mkF, argsToLocals, Value.category]; done) | rfl
theorem pn0 : plainName "java/lang/Record" = true := by first | (simp [plainName, overriddenIn]; done) | decide +kernel
set_option maxRecDepth 65536 in
set_option maxHeartbeats 40000000 in
theorem rm2 (l : Launch) (Z : State) (a0 : Array Value) (hw : ∀ d ∈ tables_1, d.before a0 Z = true) (o : Addr) (h0 : Heap) (n0 : Nat) (Z0 : n0 ≤ h0.size) :
    Own.Ct l (⟨"java/lang/Record", "<init>", "()V"⟩ : MethodName) jdk_30_method_1_code 1 none [] ({ frames := 1, cells := 0, slots := 0, locals := 12 } : Room) Z #[(.ref o)] h0 (fun rV hP lC => rV = none ∧ Fr n0 lC ∧ hP = h0) := by
  refine Own.enter (plainFor_of_name pn0) ?_
  intro p e s m below meth cc s₁ hx hby hml hown hnm hret hk hZ X0 e0
  have N0 := Fr.nil n0
  refine Own.start (ef_rm2 m o) ?_
  refine Own.aloadN X0 hx (pc := 0) (hb hby d2_0) rfl rfl ?_
  refine Own.initObj X0 hx hZ (pc := 1) hown (Wd hw 12 rfl) (Wd hw 13 rfl) (Wd hw 14 rfl) e0 (by rw [hml]; rfl) (hb hby d2_1) (by decide) 0 (Nat.le_of_eq rfl) (by decide) ?_
  intro T1 X1 e1
  exact Own.vreturn X1 hx hk hret (hb hby d2_4) e1 ⟨rfl, N0, rfl⟩ (by decide) (by decide)
theorem d1_0 : decode prog_36_method_1_code 0 = .ok (.aload_n 0, 1) := by decide +kernel
theorem pd1 : parseMethodDescriptor "()V" = some ⟨[], none⟩ := by decide +kernel
theorem d1_1 : decode prog_36_method_1_code 1 = .ok (.invokespecial 1, 3) := by decide +kernel
theorem d1_4 : decode prog_36_method_1_code 4 = .ok (.aload_n 0, 1) := by decide +kernel
theorem d1_5 : decode prog_36_method_1_code 5 = .ok (.aload_n 1, 1) := by decide +kernel
theorem d1_6 : decode prog_36_method_1_code 6 = .ok (.putfield 7, 3) := by decide +kernel
theorem d1_9 : decode prog_36_method_1_code 9 = .ok (.aload_n 0, 1) := by decide +kernel
theorem d1_10 : decode prog_36_method_1_code 10 = .ok (.aload_n 2, 1) := by decide +kernel
theorem d1_11 : decode prog_36_method_1_code 11 = .ok (.putfield 13, 3) := by decide +kernel
theorem d1_14 : decode prog_36_method_1_code 14 = .ok (.aload_n 0, 1) := by decide +kernel
theorem d1_15 : decode prog_36_method_1_code 15 = .ok (.aload_n 3, 1) := by decide +kernel
theorem d1_16 : decode prog_36_method_1_code 16 = .ok (.putfield 16, 3) := by decide +kernel
theorem d1_19 : decode prog_36_method_1_code 19 = .ok (.aload_n 0, 1) := by decide +kernel
theorem d1_20 : decode prog_36_method_1_code 20 = .ok (.aload 4, 2) := by decide +kernel
theorem d1_22 : decode prog_36_method_1_code 22 = .ok (.putfield 19, 3) := by decide +kernel
theorem d1_25 : decode prog_36_method_1_code 25 = .ok (.aload_n 0, 1) := by decide +kernel
theorem d1_26 : decode prog_36_method_1_code 26 = .ok (.aload 5, 2) := by decide +kernel
theorem d1_28 : decode prog_36_method_1_code 28 = .ok (.putfield 22, 3) := by decide +kernel
theorem d1_31 : decode prog_36_method_1_code 31 = .ok (.return_, 1) := by decide +kernel
theorem ef_rm1 (m : MethodId) (o : Addr) (ra : Addr) (rb : Addr) (rc : Addr) (rd : Addr) (re : Addr) : entryFrame m #[(.ref o), (.ref ra), (.ref rb), (.ref rc), (.ref rd), (.ref re)] 6 = mkF m 0 #[.val (.ref o), .val (.ref ra), .val (.ref rb), .val (.ref rc), .val (.ref rd), .val (.ref re)] [] := by first | (simp [entryFrame, mkF, argsToLocals, Value.category]; done) | rfl
theorem pn2 : plainName "com/example/hopwise/hopwise/paths/ArcChanges" = true := by first | (simp [plainName, overriddenIn]; done) | decide +kernel
set_option maxRecDepth 65536 in
set_option maxHeartbeats 40000000 in
theorem rm1 (l : Launch) (Z : State) (a0 : Array Value) (hw : ∀ d ∈ tables_1, d.before a0 Z = true) (o : Addr) (ra : Addr) (rb : Addr) (rc : Addr) (rd : Addr) (re : Addr) (h0 : Heap) (n0 : Nat) (Z0 : n0 ≤ h0.size) (E_o : Exa Z h0 o "com/example/hopwise/hopwise/paths/ArcChanges") (F_o_heads : Fld Z h0 o "com/example/hopwise/hopwise/paths/ArcChanges" "heads" "[I" .null) (F_o_starts : Fld Z h0 o "com/example/hopwise/hopwise/paths/ArcChanges" "starts" "[I" .null) (F_o_arcs : Fld Z h0 o "com/example/hopwise/hopwise/paths/ArcChanges" "arcs" "[I" .null) (F_o_shortened : Fld Z h0 o "com/example/hopwise/hopwise/paths/ArcChanges" "shortened" "[I" .null) (F_o_lengthsBefore : Fld Z h0 o "com/example/hopwise/hopwise/paths/ArcChanges" "lengthsBefore" "[I" .null) (ge_o : n0 ≤ o) :
    Own.Ct l (⟨"com/example/hopwise/hopwise/paths/ArcChanges", "<init>", "([I[I[I[I[I)V"⟩ : MethodName) prog_36_method_1_code 6 none [] ({ frames := 2, cells := 0, slots := 0, locals := 24 } : Room) Z #[(.ref o), (.ref ra), (.ref rb), (.ref rc), (.ref rd), (.ref re)] h0 (fun rV hP lC => rV = none ∧ Fr n0 lC ∧ Keep h0 hP [o] ∧ Fld Z hP o "com/example/hopwise/hopwise/paths/ArcChanges" "starts" "[I" (.ref rb) ∧ Fld Z hP o "com/example/hopwise/hopwise/paths/ArcChanges" "shortened" "[I" (.ref rd)) := by
  refine Own.enter (plainFor_of_name pn2) ?_
  intro p e s m below meth cc s₁ hx hby hml hown hnm hret hk hZ X0 e0
  have N0 := Fr.nil n0
  refine Own.start (ef_rm1 m o ra rb rc rd re) ?_
  have K : Keep h0 h0 [o] := Keep.refl _ _
  refine Own.aloadN X0 hx (pc := 0) (hb hby d1_0) rfl rfl ?_
  refine Own.callSpecial X0 hx hZ (pc := 1) (y := (⟨"java/lang/Record", "<init>", "()V"⟩ : MethodName)) rfl hown (Wd hw 7 rfl) (Wd hw 8 rfl) (Wd hw 10 rfl) (Wd hw 11 rfl) (by decide) 0 o [] [] (rm2 l Z a0 hw o h0 n0 Z0 ) (by decide) (by decide) e0 (by rw [hml]; rfl) pd1 rfl rfl (Nat.le_of_eq rfl) (hb hby d1_1) (by decide) (by decide) ?_
  intro T1 L1 v1 X1 hQ1
  obtain ⟨rfl, Nq1, e1⟩ := hQ1
  have N1 := Fr.app N0 Nq1
  show Own.Go p e below _ (T1.setTop (mkF m 4 #[.val (.ref o), .val (.ref ra), .val (.ref rb), .val (.ref rc), .val (.ref rd), .val (.ref re)] []))
  refine Own.aloadN X1 hx (pc := 4) (hb hby d1_4) rfl rfl ?_
  refine Own.aloadN X1 hx (pc := 5) (hb hby d1_5) rfl rfl ?_
  refine Own.putfield X1 hx hZ (pc := 6) hown (host := "") (Or.inl (Wd hw 15 rfl)) Via.refl e1 F_o_heads E_o (Or.inr ⟨(Wd hw 16 rfl), rfl, hnm⟩) (Wd hw 2 rfl) (ty := (.array .int)) (by decide) rfl rfl N1 ge_o (hb hby d1_6) ?_
  intro T2 h2 X2 e2 W2 N2 F_o_heads
  have sz2 : n0 ≤ h2.size := Nat.le_trans Z0 (Nat.le_of_eq (Wr.size W2).symm)
  have E_o := Exa.wr W2 E_o
  have F_o_starts := Fld.other W2 F_o_starts (Or.inr (slot_ne (Or.inr (Wd hw 18 rfl)) (Or.inr (Wd hw 16 rfl)) (by decide) (ht := (by decide : parseFieldDescriptor "[I" = some (.array .int))) (ht' := (by decide : parseFieldDescriptor "[I" = some (.array .int)))))
  have F_o_arcs := Fld.other W2 F_o_arcs (Or.inr (slot_ne (Or.inr (Wd hw 20 rfl)) (Or.inr (Wd hw 16 rfl)) (by decide) (ht := (by decide : parseFieldDescriptor "[I" = some (.array .int))) (ht' := (by decide : parseFieldDescriptor "[I" = some (.array .int)))))
  have F_o_shortened := Fld.other W2 F_o_shortened (Or.inr (slot_ne (Or.inr (Wd hw 22 rfl)) (Or.inr (Wd hw 16 rfl)) (by decide) (ht := (by decide : parseFieldDescriptor "[I" = some (.array .int))) (ht' := (by decide : parseFieldDescriptor "[I" = some (.array .int)))))
  have F_o_lengthsBefore := Fld.other W2 F_o_lengthsBefore (Or.inr (slot_ne (Or.inr (Wd hw 24 rfl)) (Or.inr (Wd hw 16 rfl)) (by decide) (ht := (by decide : parseFieldDescriptor "[I" = some (.array .int))) (ht' := (by decide : parseFieldDescriptor "[I" = some (.array .int)))))
  have K := K.wr W2 (Or.inl (by simp))
  refine Own.aloadN X2 hx (pc := 9) (hb hby d1_9) rfl rfl ?_
  refine Own.aloadN X2 hx (pc := 10) (hb hby d1_10) rfl rfl ?_
  refine Own.putfield X2 hx hZ (pc := 11) hown (host := "") (Or.inl (Wd hw 17 rfl)) Via.refl e2 F_o_starts E_o (Or.inr ⟨(Wd hw 18 rfl), rfl, hnm⟩) (Wd hw 2 rfl) (ty := (.array .int)) (by decide) rfl rfl N2 ge_o (hb hby d1_11) ?_
  intro T3 h3 X3 e3 W3 N3 F_o_starts
  have sz3 : n0 ≤ h3.size := Nat.le_trans sz2 (Nat.le_of_eq (Wr.size W3).symm)
  have E_o := Exa.wr W3 E_o
  have F_o_heads := Fld.other W3 F_o_heads (Or.inr (slot_ne (Or.inr (Wd hw 16 rfl)) (Or.inr (Wd hw 18 rfl)) (by decide) (ht := (by decide : parseFieldDescriptor "[I" = some (.array .int))) (ht' := (by decide : parseFieldDescriptor "[I" = some (.array .int)))))
  have F_o_arcs := Fld.other W3 F_o_arcs (Or.inr (slot_ne (Or.inr (Wd hw 20 rfl)) (Or.inr (Wd hw 18 rfl)) (by decide) (ht := (by decide : parseFieldDescriptor "[I" = some (.array .int))) (ht' := (by decide : parseFieldDescriptor "[I" = some (.array .int)))))
  have F_o_shortened := Fld.other W3 F_o_shortened (Or.inr (slot_ne (Or.inr (Wd hw 22 rfl)) (Or.inr (Wd hw 18 rfl)) (by decide) (ht := (by decide : parseFieldDescriptor "[I" = some (.array .int))) (ht' := (by decide : parseFieldDescriptor "[I" = some (.array .int)))))
  have F_o_lengthsBefore := Fld.other W3 F_o_lengthsBefore (Or.inr (slot_ne (Or.inr (Wd hw 24 rfl)) (Or.inr (Wd hw 18 rfl)) (by decide) (ht := (by decide : parseFieldDescriptor "[I" = some (.array .int))) (ht' := (by decide : parseFieldDescriptor "[I" = some (.array .int)))))
  have K := K.wr W3 (Or.inl (by simp))
  refine Own.aloadN X3 hx (pc := 14) (hb hby d1_14) rfl rfl ?_
  refine Own.aloadN X3 hx (pc := 15) (hb hby d1_15) rfl rfl ?_
  refine Own.putfield X3 hx hZ (pc := 16) hown (host := "") (Or.inl (Wd hw 19 rfl)) Via.refl e3 F_o_arcs E_o (Or.inr ⟨(Wd hw 20 rfl), rfl, hnm⟩) (Wd hw 2 rfl) (ty := (.array .int)) (by decide) rfl rfl N3 ge_o (hb hby d1_16) ?_
  intro T4 h4 X4 e4 W4 N4 F_o_arcs
  have sz4 : n0 ≤ h4.size := Nat.le_trans sz3 (Nat.le_of_eq (Wr.size W4).symm)
  have E_o := Exa.wr W4 E_o
  have F_o_heads := Fld.other W4 F_o_heads (Or.inr (slot_ne (Or.inr (Wd hw 16 rfl)) (Or.inr (Wd hw 20 rfl)) (by decide) (ht := (by decide : parseFieldDescriptor "[I" = some (.array .int))) (ht' := (by decide : parseFieldDescriptor "[I" = some (.array .int)))))
  have F_o_starts := Fld.other W4 F_o_starts (Or.inr (slot_ne (Or.inr (Wd hw 18 rfl)) (Or.inr (Wd hw 20 rfl)) (by decide) (ht := (by decide : parseFieldDescriptor "[I" = some (.array .int))) (ht' := (by decide : parseFieldDescriptor "[I" = some (.array .int)))))
  have F_o_shortened := Fld.other W4 F_o_shortened (Or.inr (slot_ne (Or.inr (Wd hw 22 rfl)) (Or.inr (Wd hw 20 rfl)) (by decide) (ht := (by decide : parseFieldDescriptor "[I" = some (.array .int))) (ht' := (by decide : parseFieldDescriptor "[I" = some (.array .int)))))
  have F_o_lengthsBefore := Fld.other W4 F_o_lengthsBefore (Or.inr (slot_ne (Or.inr (Wd hw 24 rfl)) (Or.inr (Wd hw 20 rfl)) (by decide) (ht := (by decide : parseFieldDescriptor "[I" = some (.array .int))) (ht' := (by decide : parseFieldDescriptor "[I" = some (.array .int)))))
  have K := K.wr W4 (Or.inl (by simp))
  refine Own.aloadN X4 hx (pc := 19) (hb hby d1_19) rfl rfl ?_
  refine Own.aload X4 hx (pc := 20) (hb hby d1_20) rfl rfl ?_
  refine Own.putfield X4 hx hZ (pc := 22) hown (host := "") (Or.inl (Wd hw 21 rfl)) Via.refl e4 F_o_shortened E_o (Or.inr ⟨(Wd hw 22 rfl), rfl, hnm⟩) (Wd hw 2 rfl) (ty := (.array .int)) (by decide) rfl rfl N4 ge_o (hb hby d1_22) ?_
  intro T5 h5 X5 e5 W5 N5 F_o_shortened
  have sz5 : n0 ≤ h5.size := Nat.le_trans sz4 (Nat.le_of_eq (Wr.size W5).symm)
  have E_o := Exa.wr W5 E_o
  have F_o_heads := Fld.other W5 F_o_heads (Or.inr (slot_ne (Or.inr (Wd hw 16 rfl)) (Or.inr (Wd hw 22 rfl)) (by decide) (ht := (by decide : parseFieldDescriptor "[I" = some (.array .int))) (ht' := (by decide : parseFieldDescriptor "[I" = some (.array .int)))))
  have F_o_starts := Fld.other W5 F_o_starts (Or.inr (slot_ne (Or.inr (Wd hw 18 rfl)) (Or.inr (Wd hw 22 rfl)) (by decide) (ht := (by decide : parseFieldDescriptor "[I" = some (.array .int))) (ht' := (by decide : parseFieldDescriptor "[I" = some (.array .int)))))
  have F_o_arcs := Fld.other W5 F_o_arcs (Or.inr (slot_ne (Or.inr (Wd hw 20 rfl)) (Or.inr (Wd hw 22 rfl)) (by decide) (ht := (by decide : parseFieldDescriptor "[I" = some (.array .int))) (ht' := (by decide : parseFieldDescriptor "[I" = some (.array .int)))))
  have F_o_lengthsBefore := Fld.other W5 F_o_lengthsBefore (Or.inr (slot_ne (Or.inr (Wd hw 24 rfl)) (Or.inr (Wd hw 22 rfl)) (by decide) (ht := (by decide : parseFieldDescriptor "[I" = some (.array .int))) (ht' := (by decide : parseFieldDescriptor "[I" = some (.array .int)))))
  have K := K.wr W5 (Or.inl (by simp))
  refine Own.aloadN X5 hx (pc := 25) (hb hby d1_25) rfl rfl ?_
  refine Own.aload X5 hx (pc := 26) (hb hby d1_26) rfl rfl ?_
  refine Own.putfield X5 hx hZ (pc := 28) hown (host := "") (Or.inl (Wd hw 23 rfl)) Via.refl e5 F_o_lengthsBefore E_o (Or.inr ⟨(Wd hw 24 rfl), rfl, hnm⟩) (Wd hw 2 rfl) (ty := (.array .int)) (by decide) rfl rfl N5 ge_o (hb hby d1_28) ?_
  intro T6 h6 X6 e6 W6 N6 F_o_lengthsBefore
  have sz6 : n0 ≤ h6.size := Nat.le_trans sz5 (Nat.le_of_eq (Wr.size W6).symm)
  have E_o := Exa.wr W6 E_o
  have F_o_heads := Fld.other W6 F_o_heads (Or.inr (slot_ne (Or.inr (Wd hw 16 rfl)) (Or.inr (Wd hw 24 rfl)) (by decide) (ht := (by decide : parseFieldDescriptor "[I" = some (.array .int))) (ht' := (by decide : parseFieldDescriptor "[I" = some (.array .int)))))
  have F_o_starts := Fld.other W6 F_o_starts (Or.inr (slot_ne (Or.inr (Wd hw 18 rfl)) (Or.inr (Wd hw 24 rfl)) (by decide) (ht := (by decide : parseFieldDescriptor "[I" = some (.array .int))) (ht' := (by decide : parseFieldDescriptor "[I" = some (.array .int)))))
  have F_o_arcs := Fld.other W6 F_o_arcs (Or.inr (slot_ne (Or.inr (Wd hw 20 rfl)) (Or.inr (Wd hw 24 rfl)) (by decide) (ht := (by decide : parseFieldDescriptor "[I" = some (.array .int))) (ht' := (by decide : parseFieldDescriptor "[I" = some (.array .int)))))
  have F_o_shortened := Fld.other W6 F_o_shortened (Or.inr (slot_ne (Or.inr (Wd hw 22 rfl)) (Or.inr (Wd hw 24 rfl)) (by decide) (ht := (by decide : parseFieldDescriptor "[I" = some (.array .int))) (ht' := (by decide : parseFieldDescriptor "[I" = some (.array .int)))))
  have K := K.wr W6 (Or.inl (by simp))
  exact Own.vreturn X6 hx hk hret (hb hby d1_31) e6 ⟨rfl, N6, K, F_o_starts, F_o_shortened⟩ (by decide) (by decide)
theorem d4_0 : decode prog_36_method_3_code 0 = .ok (.iconst 0, 1) := by decide +kernel
theorem d4_1 : decode prog_36_method_3_code 1 = .ok (.istore_n 2, 1) := by decide +kernel
theorem d4_2 : decode prog_36_method_3_code 2 = .ok (.aload_n 0, 1) := by decide +kernel
theorem d4_3 : decode prog_36_method_3_code 3 = .ok (.getfield 19, 3) := by decide +kernel
theorem d4_6 : decode prog_36_method_3_code 6 = .ok (.arraylength, 1) := by decide +kernel
theorem d4_7 : decode prog_36_method_3_code 7 = .ok (.istore_n 3, 1) := by decide +kernel
theorem d4_8 : decode prog_36_method_3_code 8 = .ok (.iload_n 2, 1) := by decide +kernel
theorem d4_9 : decode prog_36_method_3_code 9 = .ok (.iload_n 3, 1) := by decide +kernel
theorem d4_10 : decode prog_36_method_3_code 10 = .ok (.if_icmp .ge 40, 3) := by decide +kernel
theorem d4_50 : decode prog_36_method_3_code 50 = .ok (.iload_n 2, 1) := by decide +kernel
theorem d4_51 : decode prog_36_method_3_code 51 = .ok (.ireturn, 1) := by decide +kernel
theorem ef_rm4_0 (m : MethodId) (o : Addr) (nd : Int32) : entryFrame m #[(.ref o), (.int nd)] 5 = mkF m 0 #[.val (.ref o), .val (.int nd), .unset, .unset, .unset] [] := by first | (simp [entryFrame, mkF, argsToLocals, Value.category]; done) | rfl
set_option maxRecDepth 65536 in
set_option maxHeartbeats 40000000 in
theorem rm4_0 (l : Launch) (Z : State) (a0 : Array Value) (hw : ∀ d ∈ tables_1, d.before a0 Z = true) (o : Addr) (nd : Int32) (st : Addr) (sh : Addr) (sv : List Value) (h0 : Heap) (n0 : Nat) (Z0 : n0 ≤ h0.size) (F_o_starts : Fld Z h0 o "com/example/hopwise/hopwise/paths/ArcChanges" "starts" "[I" (.ref st)) (F_o_shortened : Fld Z h0 o "com/example/hopwise/hopwise/paths/ArcChanges" "shortened" "[I" (.ref sh)) (V_st : Own.VArr Z h0 st .int sv) (V_sh : Own.VArr Z h0 sh .int ([] : List Value)) :
    Own.Ct l (⟨"com/example/hopwise/hopwise/paths/ArcChanges", "firstShortenedOutOf", "(I)I"⟩ : MethodName) prog_36_method_3_code 5 (some .int) [] ({ frames := 0, cells := 0, slots := 0, locals := 0 } : Room) Z #[(.ref o), (.int nd)] h0 (fun rV hP lC => rV = some (.int (0 : Int32)) ∧ Fr n0 lC ∧ hP = h0) := by
  refine Own.enter (plainFor_of_name pn2) ?_
  intro p e s m below meth cc s₁ hx hby hml hown hnm hret hk hZ X0 e0
  have N0 := Fr.nil n0
  refine Own.start (ef_rm4_0 m o nd) ?_
  refine Own.iconst X0 hx (pc := 0) (0 : Int32) (hb hby d4_0) (by decide) ?_
  refine Own.istoreN X0 hx (pc := 1) #[.val (.ref o), .val (.int nd), .val (.int (0 : Int32)), .unset, .unset] (hb hby d4_1) rfl ?_
  refine Own.aloadN X0 hx (pc := 2) (hb hby d4_2) rfl rfl ?_
  refine Own.getfield X0 hx hZ (pc := 3) hown (host := "") (Or.inl (Wd hw 21 rfl)) Via.refl e0 F_o_shortened (hb hby d4_3) ?_
  intro T1 X1 e1
  refine Own.alen X1 hx hZ (pc := 6) e1 V_sh (0 : Int32) rfl (hb hby d4_6) ?_
  refine Own.istoreN X1 hx (pc := 7) #[.val (.ref o), .val (.int nd), .val (.int (0 : Int32)), .val (.int (0 : Int32)), .unset] (hb hby d4_7) rfl ?_
  refine Own.iloadN X1 hx (pc := 8) (hb hby d4_8) rfl ?_
  refine Own.iloadN X1 hx (pc := 9) (hb hby d4_9) rfl ?_
  refine Own.icmpYes X1 hx (pc := 10) 50 (hb hby d4_10) (by decide) (by decide) (by decide) ?_
  refine Own.iloadN X1 hx (pc := 50) (hb hby d4_50) rfl ?_
  exact Own.ireturn X1 hx hk hret (by simp) rfl (hb hby d4_51) e1 ⟨by simp [], N0, rfl⟩ (by decide) (by decide)
theorem d4_13 : decode prog_36_method_3_code 13 = .ok (.iload_n 2, 1) := by decide +kernel
theorem d4_14 : decode prog_36_method_3_code 14 = .ok (.iload_n 3, 1) := by decide +kernel
theorem d4_15 : decode prog_36_method_3_code 15 = .ok (.iadd, 1) := by decide +kernel
theorem d4_16 : decode prog_36_method_3_code 16 = .ok (.iconst 1, 1) := by decide +kernel
theorem d4_17 : decode prog_36_method_3_code 17 = .ok (.iushr, 1) := by decide +kernel
theorem d4_18 : decode prog_36_method_3_code 18 = .ok (.istore 4, 2) := by decide +kernel
theorem d4_20 : decode prog_36_method_3_code 20 = .ok (.aload_n 0, 1) := by decide +kernel
theorem d4_21 : decode prog_36_method_3_code 21 = .ok (.getfield 13, 3) := by decide +kernel
theorem d4_24 : decode prog_36_method_3_code 24 = .ok (.aload_n 0, 1) := by decide +kernel
theorem d4_25 : decode prog_36_method_3_code 25 = .ok (.getfield 19, 3) := by decide +kernel
theorem d4_28 : decode prog_36_method_3_code 28 = .ok (.iload 4, 2) := by decide +kernel
theorem d4_30 : decode prog_36_method_3_code 30 = .ok (.iaload, 1) := by decide +kernel
theorem d4_31 : decode prog_36_method_3_code 31 = .ok (.iaload, 1) := by decide +kernel
theorem d4_32 : decode prog_36_method_3_code 32 = .ok (.iload_n 1, 1) := by decide +kernel
theorem d4_33 : decode prog_36_method_3_code 33 = .ok (.if_icmp .ge 11, 3) := by decide +kernel
theorem d4_36 : decode prog_36_method_3_code 36 = .ok (.iload 4, 2) := by decide +kernel
theorem d4_38 : decode prog_36_method_3_code 38 = .ok (.iconst 1, 1) := by decide +kernel
theorem d4_39 : decode prog_36_method_3_code 39 = .ok (.iadd, 1) := by decide +kernel
theorem d4_40 : decode prog_36_method_3_code 40 = .ok (.istore_n 2, 1) := by decide +kernel
theorem d4_41 : decode prog_36_method_3_code 41 = .ok (.goto 6, 3) := by decide +kernel
theorem d4_47 : decode prog_36_method_3_code 47 = .ok (.goto (-39), 3) := by decide +kernel
theorem d4_44 : decode prog_36_method_3_code 44 = .ok (.iload 4, 2) := by decide +kernel
theorem d4_46 : decode prog_36_method_3_code 46 = .ok (.istore_n 3, 1) := by decide +kernel
theorem ef_rm4_1 (m : MethodId) (o : Addr) (nd : Int32) : entryFrame m #[(.ref o), (.int nd)] 5 = mkF m 0 #[.val (.ref o), .val (.int nd), .unset, .unset, .unset] [] := by first | (simp [entryFrame, mkF, argsToLocals, Value.category]; done) | rfl
set_option maxRecDepth 65536 in
set_option maxHeartbeats 40000000 in
theorem rm4_1 (l : Launch) (Z : State) (a0 : Array Value) (hw : ∀ d ∈ tables_1, d.before a0 Z = true) (o : Addr) (nd : Int32) (st : Addr) (sh : Addr) (sv : List Value) (p0 : Int32) (t0 : Int32) (h0 : Heap) (n0 : Nat) (Z0 : n0 ≤ h0.size) (F_o_starts : Fld Z h0 o "com/example/hopwise/hopwise/paths/ArcChanges" "starts" "[I" (.ref st)) (F_o_shortened : Fld Z h0 o "com/example/hopwise/hopwise/paths/ArcChanges" "shortened" "[I" (.ref sh)) (V_st : Own.VArr Z h0 st .int sv) (V_sh : Own.VArr Z h0 sh .int [(.int p0)]) (hn0 : ¬ p0 < 0) (hv0 : sv[p0.toNatClampNeg]? = some (.int t0)) :
    Own.Ct l (⟨"com/example/hopwise/hopwise/paths/ArcChanges", "firstShortenedOutOf", "(I)I"⟩ : MethodName) prog_36_method_3_code 5 (some .int) [] ({ frames := 0, cells := 0, slots := 0, locals := 0 } : Room) Z #[(.ref o), (.int nd)] h0 (fun rV hP lC => rV = some (.int (if t0 < nd then (1 : Int32) else 0)) ∧ Fr n0 lC ∧ hP = h0) := by
  refine Own.enter (plainFor_of_name pn2) ?_
  intro p e s m below meth cc s₁ hx hby hml hown hnm hret hk hZ X0 e0
  have N0 := Fr.nil n0
  refine Own.start (ef_rm4_1 m o nd) ?_
  refine Own.iconst X0 hx (pc := 0) (0 : Int32) (hb hby d4_0) (by decide) ?_
  refine Own.istoreN X0 hx (pc := 1) #[.val (.ref o), .val (.int nd), .val (.int (0 : Int32)), .unset, .unset] (hb hby d4_1) rfl ?_
  refine Own.aloadN X0 hx (pc := 2) (hb hby d4_2) rfl rfl ?_
  refine Own.getfield X0 hx hZ (pc := 3) hown (host := "") (Or.inl (Wd hw 21 rfl)) Via.refl e0 F_o_shortened (hb hby d4_3) ?_
  intro T1 X1 e1
  refine Own.alen X1 hx hZ (pc := 6) e1 V_sh (1 : Int32) rfl (hb hby d4_6) ?_
  refine Own.istoreN X1 hx (pc := 7) #[.val (.ref o), .val (.int nd), .val (.int (0 : Int32)), .val (.int (1 : Int32)), .unset] (hb hby d4_7) rfl ?_
  refine Own.iloadN X1 hx (pc := 8) (hb hby d4_8) rfl ?_
  refine Own.iloadN X1 hx (pc := 9) (hb hby d4_9) rfl ?_
  refine Own.icmpNo X1 hx (pc := 10) (hb hby d4_10) (by decide) ?_
  refine Own.iloadN X1 hx (pc := 13) (hb hby d4_13) rfl ?_
  refine Own.iloadN X1 hx (pc := 14) (hb hby d4_14) rfl ?_
  refine Own.iadd X1 hx (pc := 15) (hb hby d4_15) ?_
  refine Own.topI (show ((0 : Int32) + (1 : Int32)) = (1 : Int32) by decide) ?_
  refine Own.iconst X1 hx (pc := 16) (1 : Int32) (hb hby d4_16) (by decide) ?_
  refine Own.iushr X1 hx (pc := 17) (hb hby d4_17) ?_
  refine Own.topI (show (XT.ushr (1 : Int32) (1 : Int32)) = (0 : Int32) by decide) ?_
  refine Own.istore X1 hx (pc := 18) #[.val (.ref o), .val (.int nd), .val (.int (0 : Int32)), .val (.int (1 : Int32)), .val (.int (0 : Int32))] (hb hby d4_18) rfl ?_
  refine Own.aloadN X1 hx (pc := 20) (hb hby d4_20) rfl rfl ?_
  refine Own.getfield X1 hx hZ (pc := 21) hown (host := "") (Or.inl (Wd hw 17 rfl)) Via.refl e1 F_o_starts (hb hby d4_21) ?_
  intro T2 X2 e2
  refine Own.aloadN X2 hx (pc := 24) (hb hby d4_24) rfl rfl ?_
  refine Own.getfield X2 hx hZ (pc := 25) hown (host := "") (Or.inl (Wd hw 21 rfl)) Via.refl e2 F_o_shortened (hb hby d4_25) ?_
  intro T3 X3 e3
  refine Own.iload X3 hx (pc := 28) (hb hby d4_28) rfl ?_
  refine Own.iaload X3 hx hZ (pc := 30) e3 V_sh (v := (.int p0)) 0 (by decide) (by decide) rfl (hb hby d4_30) ?_
  refine Own.iaload X3 hx hZ (pc := 31) e3 V_st (v := (.int t0)) p0.toNatClampNeg hn0 rfl hv0 (hb hby d4_31) ?_
  refine Own.iloadN X3 hx (pc := 32) (hb hby d4_32) rfl ?_
  by_cases c4 : t0 < nd
  · refine Own.icmpNo X3 hx (pc := 33) (hb hby d4_33) (XT.ii_ge_f c4) ?_
    refine Own.iload X3 hx (pc := 36) (hb hby d4_36) rfl ?_
    refine Own.iconst X3 hx (pc := 38) (1 : Int32) (hb hby d4_38) (by decide) ?_
    refine Own.iadd X3 hx (pc := 39) (hb hby d4_39) ?_
    refine Own.topI (show ((0 : Int32) + (1 : Int32)) = (1 : Int32) by decide) ?_
    refine Own.istoreN X3 hx (pc := 40) #[.val (.ref o), .val (.int nd), .val (.int (1 : Int32)), .val (.int (1 : Int32)), .val (.int (0 : Int32))] (hb hby d4_40) rfl ?_
    refine Own.goto X3 hx (pc := 41) 47 (hb hby d4_41) (by decide) (by decide) ?_
    refine Own.goto X3 hx (pc := 47) 8 (hb hby d4_47) (by decide) (by decide) ?_
    refine Own.iloadN X3 hx (pc := 8) (hb hby d4_8) rfl ?_
    refine Own.iloadN X3 hx (pc := 9) (hb hby d4_9) rfl ?_
    refine Own.icmpYes X3 hx (pc := 10) 50 (hb hby d4_10) (by decide) (by decide) (by decide) ?_
    refine Own.iloadN X3 hx (pc := 50) (hb hby d4_50) rfl ?_
    exact Own.ireturn X3 hx hk hret (by simp) rfl (hb hby d4_51) e3 ⟨by simp [c4], N0, rfl⟩ (by decide) (by decide)
  · refine Own.icmpYes X3 hx (pc := 33) 44 (hb hby d4_33) (XT.ii_ge_t c4) (by decide) (by decide) ?_
    refine Own.iload X3 hx (pc := 44) (hb hby d4_44) rfl ?_
    refine Own.istoreN X3 hx (pc := 46) #[.val (.ref o), .val (.int nd), .val (.int (0 : Int32)), .val (.int (0 : Int32)), .val (.int (0 : Int32))] (hb hby d4_46) rfl ?_
    refine Own.goto X3 hx (pc := 47) 8 (hb hby d4_47) (by decide) (by decide) ?_
    refine Own.iloadN X3 hx (pc := 8) (hb hby d4_8) rfl ?_
    refine Own.iloadN X3 hx (pc := 9) (hb hby d4_9) rfl ?_
    refine Own.icmpYes X3 hx (pc := 10) 50 (hb hby d4_10) (by decide) (by decide) (by decide) ?_
    refine Own.iloadN X3 hx (pc := 50) (hb hby d4_50) rfl ?_
    exact Own.ireturn X3 hx hk hret (by simp) rfl (hb hby d4_51) e3 ⟨by simp [c4], N0, rfl⟩ (by decide) (by decide)
theorem ef_rm4_2 (m : MethodId) (o : Addr) (nd : Int32) : entryFrame m #[(.ref o), (.int nd)] 5 = mkF m 0 #[.val (.ref o), .val (.int nd), .unset, .unset, .unset] [] := by first | (simp [entryFrame, mkF, argsToLocals, Value.category]; done) | rfl
set_option maxRecDepth 65536 in
set_option maxHeartbeats 40000000 in
theorem rm4_2 (l : Launch) (Z : State) (a0 : Array Value) (hw : ∀ d ∈ tables_1, d.before a0 Z = true) (o : Addr) (nd : Int32) (st : Addr) (sh : Addr) (sv : List Value) (p0 : Int32) (p1 : Int32) (t0 : Int32) (t1 : Int32) (h0 : Heap) (n0 : Nat) (Z0 : n0 ≤ h0.size) (F_o_starts : Fld Z h0 o "com/example/hopwise/hopwise/paths/ArcChanges" "starts" "[I" (.ref st)) (F_o_shortened : Fld Z h0 o "com/example/hopwise/hopwise/paths/ArcChanges" "shortened" "[I" (.ref sh)) (V_st : Own.VArr Z h0 st .int sv) (V_sh : Own.VArr Z h0 sh .int [(.int p0), (.int p1)]) (hn0 : ¬ p0 < 0) (hv0 : sv[p0.toNatClampNeg]? = some (.int t0)) (hn1 : ¬ p1 < 0) (hv1 : sv[p1.toNatClampNeg]? = some (.int t1)) (m01 : t1 < nd → t0 < nd) :
    Own.Ct l (⟨"com/example/hopwise/hopwise/paths/ArcChanges", "firstShortenedOutOf", "(I)I"⟩ : MethodName) prog_36_method_3_code 5 (some .int) [] ({ frames := 0, cells := 0, slots := 0, locals := 0 } : Room) Z #[(.ref o), (.int nd)] h0 (fun rV hP lC => rV = some (.int ((if t0 < nd then (1 : Int32) else 0) + (if t1 < nd then (1 : Int32) else 0))) ∧ Fr n0 lC ∧ hP = h0) := by
  refine Own.enter (plainFor_of_name pn2) ?_
  intro p e s m below meth cc s₁ hx hby hml hown hnm hret hk hZ X0 e0
  have N0 := Fr.nil n0
  refine Own.start (ef_rm4_2 m o nd) ?_
  refine Own.iconst X0 hx (pc := 0) (0 : Int32) (hb hby d4_0) (by decide) ?_
  refine Own.istoreN X0 hx (pc := 1) #[.val (.ref o), .val (.int nd), .val (.int (0 : Int32)), .unset, .unset] (hb hby d4_1) rfl ?_
  refine Own.aloadN X0 hx (pc := 2) (hb hby d4_2) rfl rfl ?_
  refine Own.getfield X0 hx hZ (pc := 3) hown (host := "") (Or.inl (Wd hw 21 rfl)) Via.refl e0 F_o_shortened (hb hby d4_3) ?_
  intro T1 X1 e1
  refine Own.alen X1 hx hZ (pc := 6) e1 V_sh (2 : Int32) rfl (hb hby d4_6) ?_
  refine Own.istoreN X1 hx (pc := 7) #[.val (.ref o), .val (.int nd), .val (.int (0 : Int32)), .val (.int (2 : Int32)), .unset] (hb hby d4_7) rfl ?_
  refine Own.iloadN X1 hx (pc := 8) (hb hby d4_8) rfl ?_
  refine Own.iloadN X1 hx (pc := 9) (hb hby d4_9) rfl ?_
  refine Own.icmpNo X1 hx (pc := 10) (hb hby d4_10) (by decide) ?_
  refine Own.iloadN X1 hx (pc := 13) (hb hby d4_13) rfl ?_
  refine Own.iloadN X1 hx (pc := 14) (hb hby d4_14) rfl ?_
  refine Own.iadd X1 hx (pc := 15) (hb hby d4_15) ?_
  refine Own.topI (show ((0 : Int32) + (2 : Int32)) = (2 : Int32) by decide) ?_
  refine Own.iconst X1 hx (pc := 16) (1 : Int32) (hb hby d4_16) (by decide) ?_
  refine Own.iushr X1 hx (pc := 17) (hb hby d4_17) ?_
  refine Own.topI (show (XT.ushr (2 : Int32) (1 : Int32)) = (1 : Int32) by decide) ?_
  refine Own.istore X1 hx (pc := 18) #[.val (.ref o), .val (.int nd), .val (.int (0 : Int32)), .val (.int (2 : Int32)), .val (.int (1 : Int32))] (hb hby d4_18) rfl ?_
  refine Own.aloadN X1 hx (pc := 20) (hb hby d4_20) rfl rfl ?_
  refine Own.getfield X1 hx hZ (pc := 21) hown (host := "") (Or.inl (Wd hw 17 rfl)) Via.refl e1 F_o_starts (hb hby d4_21) ?_
  intro T2 X2 e2
  refine Own.aloadN X2 hx (pc := 24) (hb hby d4_24) rfl rfl ?_
  refine Own.getfield X2 hx hZ (pc := 25) hown (host := "") (Or.inl (Wd hw 21 rfl)) Via.refl e2 F_o_shortened (hb hby d4_25) ?_
  intro T3 X3 e3
  refine Own.iload X3 hx (pc := 28) (hb hby d4_28) rfl ?_
  refine Own.iaload X3 hx hZ (pc := 30) e3 V_sh (v := (.int p1)) 1 (by decide) (by decide) rfl (hb hby d4_30) ?_
  refine Own.iaload X3 hx hZ (pc := 31) e3 V_st (v := (.int t1)) p1.toNatClampNeg hn1 rfl hv1 (hb hby d4_31) ?_
  refine Own.iloadN X3 hx (pc := 32) (hb hby d4_32) rfl ?_
  by_cases c4 : t1 < nd
  · refine Own.icmpNo X3 hx (pc := 33) (hb hby d4_33) (XT.ii_ge_f c4) ?_
    refine Own.iload X3 hx (pc := 36) (hb hby d4_36) rfl ?_
    refine Own.iconst X3 hx (pc := 38) (1 : Int32) (hb hby d4_38) (by decide) ?_
    refine Own.iadd X3 hx (pc := 39) (hb hby d4_39) ?_
    refine Own.topI (show ((1 : Int32) + (1 : Int32)) = (2 : Int32) by decide) ?_
    refine Own.istoreN X3 hx (pc := 40) #[.val (.ref o), .val (.int nd), .val (.int (2 : Int32)), .val (.int (2 : Int32)), .val (.int (1 : Int32))] (hb hby d4_40) rfl ?_
    refine Own.goto X3 hx (pc := 41) 47 (hb hby d4_41) (by decide) (by decide) ?_
    refine Own.goto X3 hx (pc := 47) 8 (hb hby d4_47) (by decide) (by decide) ?_
    refine Own.iloadN X3 hx (pc := 8) (hb hby d4_8) rfl ?_
    refine Own.iloadN X3 hx (pc := 9) (hb hby d4_9) rfl ?_
    refine Own.icmpYes X3 hx (pc := 10) 50 (hb hby d4_10) (by decide) (by decide) (by decide) ?_
    refine Own.iloadN X3 hx (pc := 50) (hb hby d4_50) rfl ?_
    have k0 : t0 < nd := m01 c4
    exact Own.ireturn X3 hx hk hret (by simp) rfl (hb hby d4_51) e3 ⟨by simp [k0, c4] <;> decide, N0, rfl⟩ (by decide) (by decide)
  · refine Own.icmpYes X3 hx (pc := 33) 44 (hb hby d4_33) (XT.ii_ge_t c4) (by decide) (by decide) ?_
    refine Own.iload X3 hx (pc := 44) (hb hby d4_44) rfl ?_
    refine Own.istoreN X3 hx (pc := 46) #[.val (.ref o), .val (.int nd), .val (.int (0 : Int32)), .val (.int (1 : Int32)), .val (.int (1 : Int32))] (hb hby d4_46) rfl ?_
    refine Own.goto X3 hx (pc := 47) 8 (hb hby d4_47) (by decide) (by decide) ?_
    refine Own.iloadN X3 hx (pc := 8) (hb hby d4_8) rfl ?_
    refine Own.iloadN X3 hx (pc := 9) (hb hby d4_9) rfl ?_
    refine Own.icmpNo X3 hx (pc := 10) (hb hby d4_10) (by decide) ?_
    refine Own.iloadN X3 hx (pc := 13) (hb hby d4_13) rfl ?_
    refine Own.iloadN X3 hx (pc := 14) (hb hby d4_14) rfl ?_
    refine Own.iadd X3 hx (pc := 15) (hb hby d4_15) ?_
    refine Own.topI (show ((0 : Int32) + (1 : Int32)) = (1 : Int32) by decide) ?_
    refine Own.iconst X3 hx (pc := 16) (1 : Int32) (hb hby d4_16) (by decide) ?_
    refine Own.iushr X3 hx (pc := 17) (hb hby d4_17) ?_
    refine Own.topI (show (XT.ushr (1 : Int32) (1 : Int32)) = (0 : Int32) by decide) ?_
    refine Own.istore X3 hx (pc := 18) #[.val (.ref o), .val (.int nd), .val (.int (0 : Int32)), .val (.int (1 : Int32)), .val (.int (0 : Int32))] (hb hby d4_18) rfl ?_
    refine Own.aloadN X3 hx (pc := 20) (hb hby d4_20) rfl rfl ?_
    refine Own.getfield X3 hx hZ (pc := 21) hown (host := "") (Or.inl (Wd hw 17 rfl)) Via.refl e3 F_o_starts (hb hby d4_21) ?_
    intro T5 X5 e5
    refine Own.aloadN X5 hx (pc := 24) (hb hby d4_24) rfl rfl ?_
    refine Own.getfield X5 hx hZ (pc := 25) hown (host := "") (Or.inl (Wd hw 21 rfl)) Via.refl e5 F_o_shortened (hb hby d4_25) ?_
    intro T6 X6 e6
    refine Own.iload X6 hx (pc := 28) (hb hby d4_28) rfl ?_
    refine Own.iaload X6 hx hZ (pc := 30) e6 V_sh (v := (.int p0)) 0 (by decide) (by decide) rfl (hb hby d4_30) ?_
    refine Own.iaload X6 hx hZ (pc := 31) e6 V_st (v := (.int t0)) p0.toNatClampNeg hn0 rfl hv0 (hb hby d4_31) ?_
    refine Own.iloadN X6 hx (pc := 32) (hb hby d4_32) rfl ?_
    by_cases c7 : t0 < nd
    · refine Own.icmpNo X6 hx (pc := 33) (hb hby d4_33) (XT.ii_ge_f c7) ?_
      refine Own.iload X6 hx (pc := 36) (hb hby d4_36) rfl ?_
      refine Own.iconst X6 hx (pc := 38) (1 : Int32) (hb hby d4_38) (by decide) ?_
      refine Own.iadd X6 hx (pc := 39) (hb hby d4_39) ?_
      refine Own.topI (show ((0 : Int32) + (1 : Int32)) = (1 : Int32) by decide) ?_
      refine Own.istoreN X6 hx (pc := 40) #[.val (.ref o), .val (.int nd), .val (.int (1 : Int32)), .val (.int (1 : Int32)), .val (.int (0 : Int32))] (hb hby d4_40) rfl ?_
      refine Own.goto X6 hx (pc := 41) 47 (hb hby d4_41) (by decide) (by decide) ?_
      refine Own.goto X6 hx (pc := 47) 8 (hb hby d4_47) (by decide) (by decide) ?_
      refine Own.iloadN X6 hx (pc := 8) (hb hby d4_8) rfl ?_
      refine Own.iloadN X6 hx (pc := 9) (hb hby d4_9) rfl ?_
      refine Own.icmpYes X6 hx (pc := 10) 50 (hb hby d4_10) (by decide) (by decide) (by decide) ?_
      refine Own.iloadN X6 hx (pc := 50) (hb hby d4_50) rfl ?_
      exact Own.ireturn X6 hx hk hret (by simp) rfl (hb hby d4_51) e6 ⟨by simp [c7, c4] <;> decide, N0, rfl⟩ (by decide) (by decide)
    · refine Own.icmpYes X6 hx (pc := 33) 44 (hb hby d4_33) (XT.ii_ge_t c7) (by decide) (by decide) ?_
      refine Own.iload X6 hx (pc := 44) (hb hby d4_44) rfl ?_
      refine Own.istoreN X6 hx (pc := 46) #[.val (.ref o), .val (.int nd), .val (.int (0 : Int32)), .val (.int (0 : Int32)), .val (.int (0 : Int32))] (hb hby d4_46) rfl ?_
      refine Own.goto X6 hx (pc := 47) 8 (hb hby d4_47) (by decide) (by decide) ?_
      refine Own.iloadN X6 hx (pc := 8) (hb hby d4_8) rfl ?_
      refine Own.iloadN X6 hx (pc := 9) (hb hby d4_9) rfl ?_
      refine Own.icmpYes X6 hx (pc := 10) 50 (hb hby d4_10) (by decide) (by decide) (by decide) ?_
      refine Own.iloadN X6 hx (pc := 50) (hb hby d4_50) rfl ?_
      exact Own.ireturn X6 hx hk hret (by simp) rfl (hb hby d4_51) e6 ⟨by simp [c7, c4] <;> decide, N0, rfl⟩ (by decide) (by decide)
theorem ef_rm4_3 (m : MethodId) (o : Addr) (nd : Int32) : entryFrame m #[(.ref o), (.int nd)] 5 = mkF m 0 #[.val (.ref o), .val (.int nd), .unset, .unset, .unset] [] := by first | (simp [entryFrame, mkF, argsToLocals, Value.category]; done) | rfl
set_option maxRecDepth 65536 in
set_option maxHeartbeats 40000000 in
theorem rm4_3 (l : Launch) (Z : State) (a0 : Array Value) (hw : ∀ d ∈ tables_1, d.before a0 Z = true) (o : Addr) (nd : Int32) (st : Addr) (sh : Addr) (sv : List Value) (p0 : Int32) (p1 : Int32) (p2 : Int32) (t0 : Int32) (t1 : Int32) (t2 : Int32) (h0 : Heap) (n0 : Nat) (Z0 : n0 ≤ h0.size) (F_o_starts : Fld Z h0 o "com/example/hopwise/hopwise/paths/ArcChanges" "starts" "[I" (.ref st)) (F_o_shortened : Fld Z h0 o "com/example/hopwise/hopwise/paths/ArcChanges" "shortened" "[I" (.ref sh)) (V_st : Own.VArr Z h0 st .int sv) (V_sh : Own.VArr Z h0 sh .int [(.int p0), (.int p1), (.int p2)]) (hn0 : ¬ p0 < 0) (hv0 : sv[p0.toNatClampNeg]? = some (.int t0)) (hn1 : ¬ p1 < 0) (hv1 : sv[p1.toNatClampNeg]? = some (.int t1)) (hn2 : ¬ p2 < 0) (hv2 : sv[p2.toNatClampNeg]? = some (.int t2)) (m01 : t1 < nd → t0 < nd) (m02 : t2 < nd → t0 < nd) (m12 : t2 < nd → t1 < nd) :
    Own.Ct l (⟨"com/example/hopwise/hopwise/paths/ArcChanges", "firstShortenedOutOf", "(I)I"⟩ : MethodName) prog_36_method_3_code 5 (some .int) [] ({ frames := 0, cells := 0, slots := 0, locals := 0 } : Room) Z #[(.ref o), (.int nd)] h0 (fun rV hP lC => rV = some (.int (((if t0 < nd then (1 : Int32) else 0) + (if t1 < nd then (1 : Int32) else 0)) + (if t2 < nd then (1 : Int32) else 0))) ∧ Fr n0 lC ∧ hP = h0) := by
  refine Own.enter (plainFor_of_name pn2) ?_
  intro p e s m below meth cc s₁ hx hby hml hown hnm hret hk hZ X0 e0
  have N0 := Fr.nil n0
  refine Own.start (ef_rm4_3 m o nd) ?_
  refine Own.iconst X0 hx (pc := 0) (0 : Int32) (hb hby d4_0) (by decide) ?_
  refine Own.istoreN X0 hx (pc := 1) #[.val (.ref o), .val (.int nd), .val (.int (0 : Int32)), .unset, .unset] (hb hby d4_1) rfl ?_
  refine Own.aloadN X0 hx (pc := 2) (hb hby d4_2) rfl rfl ?_
  refine Own.getfield X0 hx hZ (pc := 3) hown (host := "") (Or.inl (Wd hw 21 rfl)) Via.refl e0 F_o_shortened (hb hby d4_3) ?_
  intro T1 X1 e1
  refine Own.alen X1 hx hZ (pc := 6) e1 V_sh (3 : Int32) rfl (hb hby d4_6) ?_
  refine Own.istoreN X1 hx (pc := 7) #[.val (.ref o), .val (.int nd), .val (.int (0 : Int32)), .val (.int (3 : Int32)), .unset] (hb hby d4_7) rfl ?_
  refine Own.iloadN X1 hx (pc := 8) (hb hby d4_8) rfl ?_
  refine Own.iloadN X1 hx (pc := 9) (hb hby d4_9) rfl ?_
  refine Own.icmpNo X1 hx (pc := 10) (hb hby d4_10) (by decide) ?_
  refine Own.iloadN X1 hx (pc := 13) (hb hby d4_13) rfl ?_
  refine Own.iloadN X1 hx (pc := 14) (hb hby d4_14) rfl ?_
  refine Own.iadd X1 hx (pc := 15) (hb hby d4_15) ?_
  refine Own.topI (show ((0 : Int32) + (3 : Int32)) = (3 : Int32) by decide) ?_
  refine Own.iconst X1 hx (pc := 16) (1 : Int32) (hb hby d4_16) (by decide) ?_
  refine Own.iushr X1 hx (pc := 17) (hb hby d4_17) ?_
  refine Own.topI (show (XT.ushr (3 : Int32) (1 : Int32)) = (1 : Int32) by decide) ?_
  refine Own.istore X1 hx (pc := 18) #[.val (.ref o), .val (.int nd), .val (.int (0 : Int32)), .val (.int (3 : Int32)), .val (.int (1 : Int32))] (hb hby d4_18) rfl ?_
  refine Own.aloadN X1 hx (pc := 20) (hb hby d4_20) rfl rfl ?_
  refine Own.getfield X1 hx hZ (pc := 21) hown (host := "") (Or.inl (Wd hw 17 rfl)) Via.refl e1 F_o_starts (hb hby d4_21) ?_
  intro T2 X2 e2
  refine Own.aloadN X2 hx (pc := 24) (hb hby d4_24) rfl rfl ?_
  refine Own.getfield X2 hx hZ (pc := 25) hown (host := "") (Or.inl (Wd hw 21 rfl)) Via.refl e2 F_o_shortened (hb hby d4_25) ?_
  intro T3 X3 e3
  refine Own.iload X3 hx (pc := 28) (hb hby d4_28) rfl ?_
  refine Own.iaload X3 hx hZ (pc := 30) e3 V_sh (v := (.int p1)) 1 (by decide) (by decide) rfl (hb hby d4_30) ?_
  refine Own.iaload X3 hx hZ (pc := 31) e3 V_st (v := (.int t1)) p1.toNatClampNeg hn1 rfl hv1 (hb hby d4_31) ?_
  refine Own.iloadN X3 hx (pc := 32) (hb hby d4_32) rfl ?_
  by_cases c4 : t1 < nd
  · refine Own.icmpNo X3 hx (pc := 33) (hb hby d4_33) (XT.ii_ge_f c4) ?_
    refine Own.iload X3 hx (pc := 36) (hb hby d4_36) rfl ?_
    refine Own.iconst X3 hx (pc := 38) (1 : Int32) (hb hby d4_38) (by decide) ?_
    refine Own.iadd X3 hx (pc := 39) (hb hby d4_39) ?_
    refine Own.topI (show ((1 : Int32) + (1 : Int32)) = (2 : Int32) by decide) ?_
    refine Own.istoreN X3 hx (pc := 40) #[.val (.ref o), .val (.int nd), .val (.int (2 : Int32)), .val (.int (3 : Int32)), .val (.int (1 : Int32))] (hb hby d4_40) rfl ?_
    refine Own.goto X3 hx (pc := 41) 47 (hb hby d4_41) (by decide) (by decide) ?_
    refine Own.goto X3 hx (pc := 47) 8 (hb hby d4_47) (by decide) (by decide) ?_
    refine Own.iloadN X3 hx (pc := 8) (hb hby d4_8) rfl ?_
    refine Own.iloadN X3 hx (pc := 9) (hb hby d4_9) rfl ?_
    refine Own.icmpNo X3 hx (pc := 10) (hb hby d4_10) (by decide) ?_
    refine Own.iloadN X3 hx (pc := 13) (hb hby d4_13) rfl ?_
    refine Own.iloadN X3 hx (pc := 14) (hb hby d4_14) rfl ?_
    refine Own.iadd X3 hx (pc := 15) (hb hby d4_15) ?_
    refine Own.topI (show ((2 : Int32) + (3 : Int32)) = (5 : Int32) by decide) ?_
    refine Own.iconst X3 hx (pc := 16) (1 : Int32) (hb hby d4_16) (by decide) ?_
    refine Own.iushr X3 hx (pc := 17) (hb hby d4_17) ?_
    refine Own.topI (show (XT.ushr (5 : Int32) (1 : Int32)) = (2 : Int32) by decide) ?_
    refine Own.istore X3 hx (pc := 18) #[.val (.ref o), .val (.int nd), .val (.int (2 : Int32)), .val (.int (3 : Int32)), .val (.int (2 : Int32))] (hb hby d4_18) rfl ?_
    refine Own.aloadN X3 hx (pc := 20) (hb hby d4_20) rfl rfl ?_
    refine Own.getfield X3 hx hZ (pc := 21) hown (host := "") (Or.inl (Wd hw 17 rfl)) Via.refl e3 F_o_starts (hb hby d4_21) ?_
    intro T5 X5 e5
    refine Own.aloadN X5 hx (pc := 24) (hb hby d4_24) rfl rfl ?_
    refine Own.getfield X5 hx hZ (pc := 25) hown (host := "") (Or.inl (Wd hw 21 rfl)) Via.refl e5 F_o_shortened (hb hby d4_25) ?_
    intro T6 X6 e6
    refine Own.iload X6 hx (pc := 28) (hb hby d4_28) rfl ?_
    refine Own.iaload X6 hx hZ (pc := 30) e6 V_sh (v := (.int p2)) 2 (by decide) (by decide) rfl (hb hby d4_30) ?_
    refine Own.iaload X6 hx hZ (pc := 31) e6 V_st (v := (.int t2)) p2.toNatClampNeg hn2 rfl hv2 (hb hby d4_31) ?_
    refine Own.iloadN X6 hx (pc := 32) (hb hby d4_32) rfl ?_
    by_cases c7 : t2 < nd
    · refine Own.icmpNo X6 hx (pc := 33) (hb hby d4_33) (XT.ii_ge_f c7) ?_
      refine Own.iload X6 hx (pc := 36) (hb hby d4_36) rfl ?_
      refine Own.iconst X6 hx (pc := 38) (1 : Int32) (hb hby d4_38) (by decide) ?_
      refine Own.iadd X6 hx (pc := 39) (hb hby d4_39) ?_
      refine Own.topI (show ((2 : Int32) + (1 : Int32)) = (3 : Int32) by decide) ?_
      refine Own.istoreN X6 hx (pc := 40) #[.val (.ref o), .val (.int nd), .val (.int (3 : Int32)), .val (.int (3 : Int32)), .val (.int (2 : Int32))] (hb hby d4_40) rfl ?_
      refine Own.goto X6 hx (pc := 41) 47 (hb hby d4_41) (by decide) (by decide) ?_
      refine Own.goto X6 hx (pc := 47) 8 (hb hby d4_47) (by decide) (by decide) ?_
      refine Own.iloadN X6 hx (pc := 8) (hb hby d4_8) rfl ?_
      refine Own.iloadN X6 hx (pc := 9) (hb hby d4_9) rfl ?_
      refine Own.icmpYes X6 hx (pc := 10) 50 (hb hby d4_10) (by decide) (by decide) (by decide) ?_
      refine Own.iloadN X6 hx (pc := 50) (hb hby d4_50) rfl ?_
      have k0 : t0 < nd := m01 c4
      exact Own.ireturn X6 hx hk hret (by simp) rfl (hb hby d4_51) e6 ⟨by simp [k0, c4, c7] <;> decide, N0, rfl⟩ (by decide) (by decide)
    · refine Own.icmpYes X6 hx (pc := 33) 44 (hb hby d4_33) (XT.ii_ge_t c7) (by decide) (by decide) ?_
      refine Own.iload X6 hx (pc := 44) (hb hby d4_44) rfl ?_
      refine Own.istoreN X6 hx (pc := 46) #[.val (.ref o), .val (.int nd), .val (.int (2 : Int32)), .val (.int (2 : Int32)), .val (.int (2 : Int32))] (hb hby d4_46) rfl ?_
      refine Own.goto X6 hx (pc := 47) 8 (hb hby d4_47) (by decide) (by decide) ?_
      refine Own.iloadN X6 hx (pc := 8) (hb hby d4_8) rfl ?_
      refine Own.iloadN X6 hx (pc := 9) (hb hby d4_9) rfl ?_
      refine Own.icmpYes X6 hx (pc := 10) 50 (hb hby d4_10) (by decide) (by decide) (by decide) ?_
      refine Own.iloadN X6 hx (pc := 50) (hb hby d4_50) rfl ?_
      have k0 : t0 < nd := m01 c4
      exact Own.ireturn X6 hx hk hret (by simp) rfl (hb hby d4_51) e6 ⟨by simp [k0, c4, c7] <;> decide, N0, rfl⟩ (by decide) (by decide)
  · refine Own.icmpYes X3 hx (pc := 33) 44 (hb hby d4_33) (XT.ii_ge_t c4) (by decide) (by decide) ?_
    refine Own.iload X3 hx (pc := 44) (hb hby d4_44) rfl ?_
    refine Own.istoreN X3 hx (pc := 46) #[.val (.ref o), .val (.int nd), .val (.int (0 : Int32)), .val (.int (1 : Int32)), .val (.int (1 : Int32))] (hb hby d4_46) rfl ?_
    refine Own.goto X3 hx (pc := 47) 8 (hb hby d4_47) (by decide) (by decide) ?_
    refine Own.iloadN X3 hx (pc := 8) (hb hby d4_8) rfl ?_
    refine Own.iloadN X3 hx (pc := 9) (hb hby d4_9) rfl ?_
    refine Own.icmpNo X3 hx (pc := 10) (hb hby d4_10) (by decide) ?_
    refine Own.iloadN X3 hx (pc := 13) (hb hby d4_13) rfl ?_
    refine Own.iloadN X3 hx (pc := 14) (hb hby d4_14) rfl ?_
    refine Own.iadd X3 hx (pc := 15) (hb hby d4_15) ?_
    refine Own.topI (show ((0 : Int32) + (1 : Int32)) = (1 : Int32) by decide) ?_
    refine Own.iconst X3 hx (pc := 16) (1 : Int32) (hb hby d4_16) (by decide) ?_
    refine Own.iushr X3 hx (pc := 17) (hb hby d4_17) ?_
    refine Own.topI (show (XT.ushr (1 : Int32) (1 : Int32)) = (0 : Int32) by decide) ?_
    refine Own.istore X3 hx (pc := 18) #[.val (.ref o), .val (.int nd), .val (.int (0 : Int32)), .val (.int (1 : Int32)), .val (.int (0 : Int32))] (hb hby d4_18) rfl ?_
    refine Own.aloadN X3 hx (pc := 20) (hb hby d4_20) rfl rfl ?_
    refine Own.getfield X3 hx hZ (pc := 21) hown (host := "") (Or.inl (Wd hw 17 rfl)) Via.refl e3 F_o_starts (hb hby d4_21) ?_
    intro T8 X8 e8
    refine Own.aloadN X8 hx (pc := 24) (hb hby d4_24) rfl rfl ?_
    refine Own.getfield X8 hx hZ (pc := 25) hown (host := "") (Or.inl (Wd hw 21 rfl)) Via.refl e8 F_o_shortened (hb hby d4_25) ?_
    intro T9 X9 e9
    refine Own.iload X9 hx (pc := 28) (hb hby d4_28) rfl ?_
    refine Own.iaload X9 hx hZ (pc := 30) e9 V_sh (v := (.int p0)) 0 (by decide) (by decide) rfl (hb hby d4_30) ?_
    refine Own.iaload X9 hx hZ (pc := 31) e9 V_st (v := (.int t0)) p0.toNatClampNeg hn0 rfl hv0 (hb hby d4_31) ?_
    refine Own.iloadN X9 hx (pc := 32) (hb hby d4_32) rfl ?_
    by_cases c10 : t0 < nd
    · refine Own.icmpNo X9 hx (pc := 33) (hb hby d4_33) (XT.ii_ge_f c10) ?_
      refine Own.iload X9 hx (pc := 36) (hb hby d4_36) rfl ?_
      refine Own.iconst X9 hx (pc := 38) (1 : Int32) (hb hby d4_38) (by decide) ?_
      refine Own.iadd X9 hx (pc := 39) (hb hby d4_39) ?_
      refine Own.topI (show ((0 : Int32) + (1 : Int32)) = (1 : Int32) by decide) ?_
      refine Own.istoreN X9 hx (pc := 40) #[.val (.ref o), .val (.int nd), .val (.int (1 : Int32)), .val (.int (1 : Int32)), .val (.int (0 : Int32))] (hb hby d4_40) rfl ?_
      refine Own.goto X9 hx (pc := 41) 47 (hb hby d4_41) (by decide) (by decide) ?_
      refine Own.goto X9 hx (pc := 47) 8 (hb hby d4_47) (by decide) (by decide) ?_
      refine Own.iloadN X9 hx (pc := 8) (hb hby d4_8) rfl ?_
      refine Own.iloadN X9 hx (pc := 9) (hb hby d4_9) rfl ?_
      refine Own.icmpYes X9 hx (pc := 10) 50 (hb hby d4_10) (by decide) (by decide) (by decide) ?_
      refine Own.iloadN X9 hx (pc := 50) (hb hby d4_50) rfl ?_
      have k2 : ¬ t2 < nd := fun q => c4 (m12 q)
      exact Own.ireturn X9 hx hk hret (by simp) rfl (hb hby d4_51) e9 ⟨by simp [c10, c4, k2] <;> decide, N0, rfl⟩ (by decide) (by decide)
    · refine Own.icmpYes X9 hx (pc := 33) 44 (hb hby d4_33) (XT.ii_ge_t c10) (by decide) (by decide) ?_
      refine Own.iload X9 hx (pc := 44) (hb hby d4_44) rfl ?_
      refine Own.istoreN X9 hx (pc := 46) #[.val (.ref o), .val (.int nd), .val (.int (0 : Int32)), .val (.int (0 : Int32)), .val (.int (0 : Int32))] (hb hby d4_46) rfl ?_
      refine Own.goto X9 hx (pc := 47) 8 (hb hby d4_47) (by decide) (by decide) ?_
      refine Own.iloadN X9 hx (pc := 8) (hb hby d4_8) rfl ?_
      refine Own.iloadN X9 hx (pc := 9) (hb hby d4_9) rfl ?_
      refine Own.icmpYes X9 hx (pc := 10) 50 (hb hby d4_10) (by decide) (by decide) (by decide) ?_
      refine Own.iloadN X9 hx (pc := 50) (hb hby d4_50) rfl ?_
      have k2 : ¬ t2 < nd := fun q => c4 (m12 q)
      exact Own.ireturn X9 hx hk hret (by simp) rfl (hb hby d4_51) e9 ⟨by simp [c10, c4, k2] <;> decide, N0, rfl⟩ (by decide) (by decide)
theorem ef_rm4_4 (m : MethodId) (o : Addr) (nd : Int32) : entryFrame m #[(.ref o), (.int nd)] 5 = mkF m 0 #[.val (.ref o), .val (.int nd), .unset, .unset, .unset] [] := by first | (simp [entryFrame, mkF, argsToLocals, Value.category]; done) | rfl
set_option maxRecDepth 65536 in
set_option maxHeartbeats 40000000 in
theorem rm4_4 (l : Launch) (Z : State) (a0 : Array Value) (hw : ∀ d ∈ tables_1, d.before a0 Z = true) (o : Addr) (nd : Int32) (st : Addr) (sh : Addr) (sv : List Value) (p0 : Int32) (p1 : Int32) (p2 : Int32) (p3 : Int32) (t0 : Int32) (t1 : Int32) (t2 : Int32) (t3 : Int32) (h0 : Heap) (n0 : Nat) (Z0 : n0 ≤ h0.size) (F_o_starts : Fld Z h0 o "com/example/hopwise/hopwise/paths/ArcChanges" "starts" "[I" (.ref st)) (F_o_shortened : Fld Z h0 o "com/example/hopwise/hopwise/paths/ArcChanges" "shortened" "[I" (.ref sh)) (V_st : Own.VArr Z h0 st .int sv) (V_sh : Own.VArr Z h0 sh .int [(.int p0), (.int p1), (.int p2), (.int p3)]) (hn0 : ¬ p0 < 0) (hv0 : sv[p0.toNatClampNeg]? = some (.int t0)) (hn1 : ¬ p1 < 0) (hv1 : sv[p1.toNatClampNeg]? = some (.int t1)) (hn2 : ¬ p2 < 0) (hv2 : sv[p2.toNatClampNeg]? = some (.int t2)) (hn3 : ¬ p3 < 0) (hv3 : sv[p3.toNatClampNeg]? = some (.int t3)) (m01 : t1 < nd → t0 < nd) (m02 : t2 < nd → t0 < nd) (m03 : t3 < nd → t0 < nd) (m12 : t2 < nd → t1 < nd) (m13 : t3 < nd → t1 < nd) (m23 : t3 < nd → t2 < nd) :
    Own.Ct l (⟨"com/example/hopwise/hopwise/paths/ArcChanges", "firstShortenedOutOf", "(I)I"⟩ : MethodName) prog_36_method_3_code 5 (some .int) [] ({ frames := 0, cells := 0, slots := 0, locals := 0 } : Room) Z #[(.ref o), (.int nd)] h0 (fun rV hP lC => rV = some (.int ((((if t0 < nd then (1 : Int32) else 0) + (if t1 < nd then (1 : Int32) else 0)) + (if t2 < nd then (1 : Int32) else 0)) + (if t3 < nd then (1 : Int32) else 0))) ∧ Fr n0 lC ∧ hP = h0) := by
  refine Own.enter (plainFor_of_name pn2) ?_
  intro p e s m below meth cc s₁ hx hby hml hown hnm hret hk hZ X0 e0
  have N0 := Fr.nil n0
  refine Own.start (ef_rm4_4 m o nd) ?_
  refine Own.iconst X0 hx (pc := 0) (0 : Int32) (hb hby d4_0) (by decide) ?_
  refine Own.istoreN X0 hx (pc := 1) #[.val (.ref o), .val (.int nd), .val (.int (0 : Int32)), .unset, .unset] (hb hby d4_1) rfl ?_
  refine Own.aloadN X0 hx (pc := 2) (hb hby d4_2) rfl rfl ?_
  refine Own.getfield X0 hx hZ (pc := 3) hown (host := "") (Or.inl (Wd hw 21 rfl)) Via.refl e0 F_o_shortened (hb hby d4_3) ?_
  intro T1 X1 e1
  refine Own.alen X1 hx hZ (pc := 6) e1 V_sh (4 : Int32) rfl (hb hby d4_6) ?_
  refine Own.istoreN X1 hx (pc := 7) #[.val (.ref o), .val (.int nd), .val (.int (0 : Int32)), .val (.int (4 : Int32)), .unset] (hb hby d4_7) rfl ?_
  refine Own.iloadN X1 hx (pc := 8) (hb hby d4_8) rfl ?_
  refine Own.iloadN X1 hx (pc := 9) (hb hby d4_9) rfl ?_
  refine Own.icmpNo X1 hx (pc := 10) (hb hby d4_10) (by decide) ?_
  refine Own.iloadN X1 hx (pc := 13) (hb hby d4_13) rfl ?_
  refine Own.iloadN X1 hx (pc := 14) (hb hby d4_14) rfl ?_
  refine Own.iadd X1 hx (pc := 15) (hb hby d4_15) ?_
  refine Own.topI (show ((0 : Int32) + (4 : Int32)) = (4 : Int32) by decide) ?_
  refine Own.iconst X1 hx (pc := 16) (1 : Int32) (hb hby d4_16) (by decide) ?_
  refine Own.iushr X1 hx (pc := 17) (hb hby d4_17) ?_
  refine Own.topI (show (XT.ushr (4 : Int32) (1 : Int32)) = (2 : Int32) by decide) ?_
  refine Own.istore X1 hx (pc := 18) #[.val (.ref o), .val (.int nd), .val (.int (0 : Int32)), .val (.int (4 : Int32)), .val (.int (2 : Int32))] (hb hby d4_18) rfl ?_
  refine Own.aloadN X1 hx (pc := 20) (hb hby d4_20) rfl rfl ?_
  refine Own.getfield X1 hx hZ (pc := 21) hown (host := "") (Or.inl (Wd hw 17 rfl)) Via.refl e1 F_o_starts (hb hby d4_21) ?_
  intro T2 X2 e2
  refine Own.aloadN X2 hx (pc := 24) (hb hby d4_24) rfl rfl ?_
  refine Own.getfield X2 hx hZ (pc := 25) hown (host := "") (Or.inl (Wd hw 21 rfl)) Via.refl e2 F_o_shortened (hb hby d4_25) ?_
  intro T3 X3 e3
  refine Own.iload X3 hx (pc := 28) (hb hby d4_28) rfl ?_
  refine Own.iaload X3 hx hZ (pc := 30) e3 V_sh (v := (.int p2)) 2 (by decide) (by decide) rfl (hb hby d4_30) ?_
  refine Own.iaload X3 hx hZ (pc := 31) e3 V_st (v := (.int t2)) p2.toNatClampNeg hn2 rfl hv2 (hb hby d4_31) ?_
  refine Own.iloadN X3 hx (pc := 32) (hb hby d4_32) rfl ?_
  by_cases c4 : t2 < nd
  · refine Own.icmpNo X3 hx (pc := 33) (hb hby d4_33) (XT.ii_ge_f c4) ?_
    refine Own.iload X3 hx (pc := 36) (hb hby d4_36) rfl ?_
    refine Own.iconst X3 hx (pc := 38) (1 : Int32) (hb hby d4_38) (by decide) ?_
    refine Own.iadd X3 hx (pc := 39) (hb hby d4_39) ?_
    refine Own.topI (show ((2 : Int32) + (1 : Int32)) = (3 : Int32) by decide) ?_
    refine Own.istoreN X3 hx (pc := 40) #[.val (.ref o), .val (.int nd), .val (.int (3 : Int32)), .val (.int (4 : Int32)), .val (.int (2 : Int32))] (hb hby d4_40) rfl ?_
    refine Own.goto X3 hx (pc := 41) 47 (hb hby d4_41) (by decide) (by decide) ?_
    refine Own.goto X3 hx (pc := 47) 8 (hb hby d4_47) (by decide) (by decide) ?_
    refine Own.iloadN X3 hx (pc := 8) (hb hby d4_8) rfl ?_
    refine Own.iloadN X3 hx (pc := 9) (hb hby d4_9) rfl ?_
    refine Own.icmpNo X3 hx (pc := 10) (hb hby d4_10) (by decide) ?_
    refine Own.iloadN X3 hx (pc := 13) (hb hby d4_13) rfl ?_
    refine Own.iloadN X3 hx (pc := 14) (hb hby d4_14) rfl ?_
    refine Own.iadd X3 hx (pc := 15) (hb hby d4_15) ?_
    refine Own.topI (show ((3 : Int32) + (4 : Int32)) = (7 : Int32) by decide) ?_
    refine Own.iconst X3 hx (pc := 16) (1 : Int32) (hb hby d4_16) (by decide) ?_
    refine Own.iushr X3 hx (pc := 17) (hb hby d4_17) ?_
    refine Own.topI (show (XT.ushr (7 : Int32) (1 : Int32)) = (3 : Int32) by decide) ?_
    refine Own.istore X3 hx (pc := 18) #[.val (.ref o), .val (.int nd), .val (.int (3 : Int32)), .val (.int (4 : Int32)), .val (.int (3 : Int32))] (hb hby d4_18) rfl ?_
    refine Own.aloadN X3 hx (pc := 20) (hb hby d4_20) rfl rfl ?_
    refine Own.getfield X3 hx hZ (pc := 21) hown (host := "") (Or.inl (Wd hw 17 rfl)) Via.refl e3 F_o_starts (hb hby d4_21) ?_
    intro T5 X5 e5
    refine Own.aloadN X5 hx (pc := 24) (hb hby d4_24) rfl rfl ?_
    refine Own.getfield X5 hx hZ (pc := 25) hown (host := "") (Or.inl (Wd hw 21 rfl)) Via.refl e5 F_o_shortened (hb hby d4_25) ?_
    intro T6 X6 e6
    refine Own.iload X6 hx (pc := 28) (hb hby d4_28) rfl ?_
    refine Own.iaload X6 hx hZ (pc := 30) e6 V_sh (v := (.int p3)) 3 (by decide) (by decide) rfl (hb hby d4_30) ?_
    refine Own.iaload X6 hx hZ (pc := 31) e6 V_st (v := (.int t3)) p3.toNatClampNeg hn3 rfl hv3 (hb hby d4_31) ?_
    refine Own.iloadN X6 hx (pc := 32) (hb hby d4_32) rfl ?_
    by_cases c7 : t3 < nd
    · refine Own.icmpNo X6 hx (pc := 33) (hb hby d4_33) (XT.ii_ge_f c7) ?_
      refine Own.iload X6 hx (pc := 36) (hb hby d4_36) rfl ?_
      refine Own.iconst X6 hx (pc := 38) (1 : Int32) (hb hby d4_38) (by decide) ?_
      refine Own.iadd X6 hx (pc := 39) (hb hby d4_39) ?_
      refine Own.topI (show ((3 : Int32) + (1 : Int32)) = (4 : Int32) by decide) ?_
      refine Own.istoreN X6 hx (pc := 40) #[.val (.ref o), .val (.int nd), .val (.int (4 : Int32)), .val (.int (4 : Int32)), .val (.int (3 : Int32))] (hb hby d4_40) rfl ?_
      refine Own.goto X6 hx (pc := 41) 47 (hb hby d4_41) (by decide) (by decide) ?_
      refine Own.goto X6 hx (pc := 47) 8 (hb hby d4_47) (by decide) (by decide) ?_
      refine Own.iloadN X6 hx (pc := 8) (hb hby d4_8) rfl ?_
      refine Own.iloadN X6 hx (pc := 9) (hb hby d4_9) rfl ?_
      refine Own.icmpYes X6 hx (pc := 10) 50 (hb hby d4_10) (by decide) (by decide) (by decide) ?_
      refine Own.iloadN X6 hx (pc := 50) (hb hby d4_50) rfl ?_
      have k0 : t0 < nd := m02 c4
      have k1 : t1 < nd := m12 c4
      exact Own.ireturn X6 hx hk hret (by simp) rfl (hb hby d4_51) e6 ⟨by simp [k0, k1, c4, c7] <;> decide, N0, rfl⟩ (by decide) (by decide)
    · refine Own.icmpYes X6 hx (pc := 33) 44 (hb hby d4_33) (XT.ii_ge_t c7) (by decide) (by decide) ?_
      refine Own.iload X6 hx (pc := 44) (hb hby d4_44) rfl ?_
      refine Own.istoreN X6 hx (pc := 46) #[.val (.ref o), .val (.int nd), .val (.int (3 : Int32)), .val (.int (3 : Int32)), .val (.int (3 : Int32))] (hb hby d4_46) rfl ?_
      refine Own.goto X6 hx (pc := 47) 8 (hb hby d4_47) (by decide) (by decide) ?_
      refine Own.iloadN X6 hx (pc := 8) (hb hby d4_8) rfl ?_
      refine Own.iloadN X6 hx (pc := 9) (hb hby d4_9) rfl ?_
      refine Own.icmpYes X6 hx (pc := 10) 50 (hb hby d4_10) (by decide) (by decide) (by decide) ?_
      refine Own.iloadN X6 hx (pc := 50) (hb hby d4_50) rfl ?_
      have k0 : t0 < nd := m02 c4
      have k1 : t1 < nd := m12 c4
      exact Own.ireturn X6 hx hk hret (by simp) rfl (hb hby d4_51) e6 ⟨by simp [k0, k1, c4, c7] <;> decide, N0, rfl⟩ (by decide) (by decide)
  · refine Own.icmpYes X3 hx (pc := 33) 44 (hb hby d4_33) (XT.ii_ge_t c4) (by decide) (by decide) ?_
    refine Own.iload X3 hx (pc := 44) (hb hby d4_44) rfl ?_
    refine Own.istoreN X3 hx (pc := 46) #[.val (.ref o), .val (.int nd), .val (.int (0 : Int32)), .val (.int (2 : Int32)), .val (.int (2 : Int32))] (hb hby d4_46) rfl ?_
    refine Own.goto X3 hx (pc := 47) 8 (hb hby d4_47) (by decide) (by decide) ?_
    refine Own.iloadN X3 hx (pc := 8) (hb hby d4_8) rfl ?_
    refine Own.iloadN X3 hx (pc := 9) (hb hby d4_9) rfl ?_
    refine Own.icmpNo X3 hx (pc := 10) (hb hby d4_10) (by decide) ?_
    refine Own.iloadN X3 hx (pc := 13) (hb hby d4_13) rfl ?_
    refine Own.iloadN X3 hx (pc := 14) (hb hby d4_14) rfl ?_
    refine Own.iadd X3 hx (pc := 15) (hb hby d4_15) ?_
    refine Own.topI (show ((0 : Int32) + (2 : Int32)) = (2 : Int32) by decide) ?_
    refine Own.iconst X3 hx (pc := 16) (1 : Int32) (hb hby d4_16) (by decide) ?_
    refine Own.iushr X3 hx (pc := 17) (hb hby d4_17) ?_
    refine Own.topI (show (XT.ushr (2 : Int32) (1 : Int32)) = (1 : Int32) by decide) ?_
    refine Own.istore X3 hx (pc := 18) #[.val (.ref o), .val (.int nd), .val (.int (0 : Int32)), .val (.int (2 : Int32)), .val (.int (1 : Int32))] (hb hby d4_18) rfl ?_
    refine Own.aloadN X3 hx (pc := 20) (hb hby d4_20) rfl rfl ?_
    refine Own.getfield X3 hx hZ (pc := 21) hown (host := "") (Or.inl (Wd hw 17 rfl)) Via.refl e3 F_o_starts (hb hby d4_21) ?_
    intro T8 X8 e8
    refine Own.aloadN X8 hx (pc := 24) (hb hby d4_24) rfl rfl ?_
    refine Own.getfield X8 hx hZ (pc := 25) hown (host := "") (Or.inl (Wd hw 21 rfl)) Via.refl e8 F_o_shortened (hb hby d4_25) ?_
    intro T9 X9 e9
    refine Own.iload X9 hx (pc := 28) (hb hby d4_28) rfl ?_
    refine Own.iaload X9 hx hZ (pc := 30) e9 V_sh (v := (.int p1)) 1 (by decide) (by decide) rfl (hb hby d4_30) ?_
    refine Own.iaload X9 hx hZ (pc := 31) e9 V_st (v := (.int t1)) p1.toNatClampNeg hn1 rfl hv1 (hb hby d4_31) ?_
    refine Own.iloadN X9 hx (pc := 32) (hb hby d4_32) rfl ?_
    by_cases c10 : t1 < nd
    · refine Own.icmpNo X9 hx (pc := 33) (hb hby d4_33) (XT.ii_ge_f c10) ?_
      refine Own.iload X9 hx (pc := 36) (hb hby d4_36) rfl ?_
      refine Own.iconst X9 hx (pc := 38) (1 : Int32) (hb hby d4_38) (by decide) ?_
      refine Own.iadd X9 hx (pc := 39) (hb hby d4_39) ?_
      refine Own.topI (show ((1 : Int32) + (1 : Int32)) = (2 : Int32) by decide) ?_
      refine Own.istoreN X9 hx (pc := 40) #[.val (.ref o), .val (.int nd), .val (.int (2 : Int32)), .val (.int (2 : Int32)), .val (.int (1 : Int32))] (hb hby d4_40) rfl ?_
      refine Own.goto X9 hx (pc := 41) 47 (hb hby d4_41) (by decide) (by decide) ?_
      refine Own.goto X9 hx (pc := 47) 8 (hb hby d4_47) (by decide) (by decide) ?_
      refine Own.iloadN X9 hx (pc := 8) (hb hby d4_8) rfl ?_
      refine Own.iloadN X9 hx (pc := 9) (hb hby d4_9) rfl ?_
      refine Own.icmpYes X9 hx (pc := 10) 50 (hb hby d4_10) (by decide) (by decide) (by decide) ?_
      refine Own.iloadN X9 hx (pc := 50) (hb hby d4_50) rfl ?_
      have k0 : t0 < nd := m01 c10
      have k3 : ¬ t3 < nd := fun q => c4 (m23 q)
      exact Own.ireturn X9 hx hk hret (by simp) rfl (hb hby d4_51) e9 ⟨by simp [k0, c10, c4, k3] <;> decide, N0, rfl⟩ (by decide) (by decide)
    · refine Own.icmpYes X9 hx (pc := 33) 44 (hb hby d4_33) (XT.ii_ge_t c10) (by decide) (by decide) ?_
      refine Own.iload X9 hx (pc := 44) (hb hby d4_44) rfl ?_
      refine Own.istoreN X9 hx (pc := 46) #[.val (.ref o), .val (.int nd), .val (.int (0 : Int32)), .val (.int (1 : Int32)), .val (.int (1 : Int32))] (hb hby d4_46) rfl ?_
      refine Own.goto X9 hx (pc := 47) 8 (hb hby d4_47) (by decide) (by decide) ?_
      refine Own.iloadN X9 hx (pc := 8) (hb hby d4_8) rfl ?_
      refine Own.iloadN X9 hx (pc := 9) (hb hby d4_9) rfl ?_
      refine Own.icmpNo X9 hx (pc := 10) (hb hby d4_10) (by decide) ?_
      refine Own.iloadN X9 hx (pc := 13) (hb hby d4_13) rfl ?_
      refine Own.iloadN X9 hx (pc := 14) (hb hby d4_14) rfl ?_
      refine Own.iadd X9 hx (pc := 15) (hb hby d4_15) ?_
      refine Own.topI (show ((0 : Int32) + (1 : Int32)) = (1 : Int32) by decide) ?_
      refine Own.iconst X9 hx (pc := 16) (1 : Int32) (hb hby d4_16) (by decide) ?_
      refine Own.iushr X9 hx (pc := 17) (hb hby d4_17) ?_
      refine Own.topI (show (XT.ushr (1 : Int32) (1 : Int32)) = (0 : Int32) by decide) ?_
      refine Own.istore X9 hx (pc := 18) #[.val (.ref o), .val (.int nd), .val (.int (0 : Int32)), .val (.int (1 : Int32)), .val (.int (0 : Int32))] (hb hby d4_18) rfl ?_
      refine Own.aloadN X9 hx (pc := 20) (hb hby d4_20) rfl rfl ?_
      refine Own.getfield X9 hx hZ (pc := 21) hown (host := "") (Or.inl (Wd hw 17 rfl)) Via.refl e9 F_o_starts (hb hby d4_21) ?_
      intro T11 X11 e11
      refine Own.aloadN X11 hx (pc := 24) (hb hby d4_24) rfl rfl ?_
      refine Own.getfield X11 hx hZ (pc := 25) hown (host := "") (Or.inl (Wd hw 21 rfl)) Via.refl e11 F_o_shortened (hb hby d4_25) ?_
      intro T12 X12 e12
      refine Own.iload X12 hx (pc := 28) (hb hby d4_28) rfl ?_
      refine Own.iaload X12 hx hZ (pc := 30) e12 V_sh (v := (.int p0)) 0 (by decide) (by decide) rfl (hb hby d4_30) ?_
      refine Own.iaload X12 hx hZ (pc := 31) e12 V_st (v := (.int t0)) p0.toNatClampNeg hn0 rfl hv0 (hb hby d4_31) ?_
      refine Own.iloadN X12 hx (pc := 32) (hb hby d4_32) rfl ?_
      by_cases c13 : t0 < nd
      · refine Own.icmpNo X12 hx (pc := 33) (hb hby d4_33) (XT.ii_ge_f c13) ?_
        refine Own.iload X12 hx (pc := 36) (hb hby d4_36) rfl ?_
        refine Own.iconst X12 hx (pc := 38) (1 : Int32) (hb hby d4_38) (by decide) ?_
        refine Own.iadd X12 hx (pc := 39) (hb hby d4_39) ?_
        refine Own.topI (show ((0 : Int32) + (1 : Int32)) = (1 : Int32) by decide) ?_
        refine Own.istoreN X12 hx (pc := 40) #[.val (.ref o), .val (.int nd), .val (.int (1 : Int32)), .val (.int (1 : Int32)), .val (.int (0 : Int32))] (hb hby d4_40) rfl ?_
        refine Own.goto X12 hx (pc := 41) 47 (hb hby d4_41) (by decide) (by decide) ?_
        refine Own.goto X12 hx (pc := 47) 8 (hb hby d4_47) (by decide) (by decide) ?_
        refine Own.iloadN X12 hx (pc := 8) (hb hby d4_8) rfl ?_
        refine Own.iloadN X12 hx (pc := 9) (hb hby d4_9) rfl ?_
        refine Own.icmpYes X12 hx (pc := 10) 50 (hb hby d4_10) (by decide) (by decide) (by decide) ?_
        refine Own.iloadN X12 hx (pc := 50) (hb hby d4_50) rfl ?_
        have k3 : ¬ t3 < nd := fun q => c4 (m23 q)
        exact Own.ireturn X12 hx hk hret (by simp) rfl (hb hby d4_51) e12 ⟨by simp [c13, c10, c4, k3] <;> decide, N0, rfl⟩ (by decide) (by decide)
      · refine Own.icmpYes X12 hx (pc := 33) 44 (hb hby d4_33) (XT.ii_ge_t c13) (by decide) (by decide) ?_
        refine Own.iload X12 hx (pc := 44) (hb hby d4_44) rfl ?_
        refine Own.istoreN X12 hx (pc := 46) #[.val (.ref o), .val (.int nd), .val (.int (0 : Int32)), .val (.int (0 : Int32)), .val (.int (0 : Int32))] (hb hby d4_46) rfl ?_
        refine Own.goto X12 hx (pc := 47) 8 (hb hby d4_47) (by decide) (by decide) ?_
        refine Own.iloadN X12 hx (pc := 8) (hb hby d4_8) rfl ?_
        refine Own.iloadN X12 hx (pc := 9) (hb hby d4_9) rfl ?_
        refine Own.icmpYes X12 hx (pc := 10) 50 (hb hby d4_10) (by decide) (by decide) (by decide) ?_
        refine Own.iloadN X12 hx (pc := 50) (hb hby d4_50) rfl ?_
        have k3 : ¬ t3 < nd := fun q => c4 (m23 q)
        exact Own.ireturn X12 hx hk hret (by simp) rfl (hb hby d4_51) e12 ⟨by simp [c13, c10, c4, k3] <;> decide, N0, rfl⟩ (by decide) (by decide)
theorem d5_0 : decode method_3_code 0 = .ok (.iload_n 1, 1) := by decide +kernel
theorem d5_1 : decode method_3_code 1 = .ok (.iload_n 0, 1) := by decide +kernel
theorem d5_2 : decode method_3_code 2 = .ok (.if_icmp .ge 12, 3) := by decide +kernel
theorem d5_5 : decode method_3_code 5 = .ok (.iload_n 2, 1) := by decide +kernel
theorem d5_6 : decode method_3_code 6 = .ok (.iload_n 3, 1) := by decide +kernel
theorem d5_7 : decode method_3_code 7 = .ok (.if_icmp .ge 7, 3) := by decide +kernel
theorem d5_10 : decode method_3_code 10 = .ok (.iconst 1, 1) := by decide +kernel
theorem d5_11 : decode method_3_code 11 = .ok (.goto 4, 3) := by decide +kernel
theorem d5_15 : decode method_3_code 15 = .ok (.ireturn, 1) := by decide +kernel
theorem d5_14 : decode method_3_code 14 = .ok (.iconst 0, 1) := by decide +kernel
theorem ef_rm5 (m : MethodId) (nn : Int32) (ii : Int32) (sx : Int32) (nd : Int32) : entryFrame m #[(.int nn), (.int ii), (.int sx), (.int nd)] 4 = mkF m 0 #[.val (.int nn), .val (.int ii), .val (.int sx), .val (.int nd)] [] := by first | (simp [entryFrame, mkF, argsToLocals, Value.category]; done) | rfl
theorem pn3 : plainName "com/example/hopwise/hopwise/paths/ArcChangesFirstShortenedOutOfPinLaw" = true := by first | (simp [plainName, overriddenIn]; done) | decide +kernel
set_option maxRecDepth 65536 in
set_option maxHeartbeats 40000000 in
theorem rm5 (l : Launch) (Z : State) (a0 : Array Value) (hw : ∀ d ∈ tables_1, d.before a0 Z = true) (nn : Int32) (ii : Int32) (sx : Int32) (nd : Int32) (h0 : Heap) (n0 : Nat) (Z0 : n0 ≤ h0.size) :
    Own.Ct l (⟨"com/example/hopwise/hopwise/paths/ArcChangesFirstShortenedOutOfPinLaw", "below", "(IIII)I"⟩ : MethodName) method_3_code 4 (some .int) [] ({ frames := 0, cells := 0, slots := 0, locals := 0 } : Room) Z #[(.int nn), (.int ii), (.int sx), (.int nd)] h0 (fun rV hP lC => rV = some (.int (if (ii < nn ∧ sx < nd) then (1 : Int32) else 0)) ∧ Fr n0 lC ∧ hP = h0) := by
  refine Own.enter (plainFor_of_name pn3) ?_
  intro p e s m below meth cc s₁ hx hby hml hown hnm hret hk hZ X0 e0
  have N0 := Fr.nil n0
  refine Own.start (ef_rm5 m nn ii sx nd) ?_
  refine Own.iloadN X0 hx (pc := 0) (hb hby d5_0) rfl ?_
  refine Own.iloadN X0 hx (pc := 1) (hb hby d5_1) rfl ?_
  by_cases c1 : ii < nn
  · refine Own.icmpNo X0 hx (pc := 2) (hb hby d5_2) (XT.ii_ge_f c1) ?_
    refine Own.iloadN X0 hx (pc := 5) (hb hby d5_5) rfl ?_
    refine Own.iloadN X0 hx (pc := 6) (hb hby d5_6) rfl ?_
    by_cases c2 : sx < nd
    · refine Own.icmpNo X0 hx (pc := 7) (hb hby d5_7) (XT.ii_ge_f c2) ?_
      refine Own.iconst X0 hx (pc := 10) (1 : Int32) (hb hby d5_10) (by decide) ?_
      refine Own.goto X0 hx (pc := 11) 15 (hb hby d5_11) (by decide) (by decide) ?_
      exact Own.ireturn X0 hx hk hret (by simp) rfl (hb hby d5_15) e0 ⟨by simp [c1, c2], N0, rfl⟩ (by decide) (by decide)
    · refine Own.icmpYes X0 hx (pc := 7) 14 (hb hby d5_7) (XT.ii_ge_t c2) (by decide) (by decide) ?_
      refine Own.iconst X0 hx (pc := 14) (0 : Int32) (hb hby d5_14) (by decide) ?_
      exact Own.ireturn X0 hx hk hret (by simp) rfl (hb hby d5_15) e0 ⟨by simp [c1, c2], N0, rfl⟩ (by decide) (by decide)
  · refine Own.icmpYes X0 hx (pc := 2) 14 (hb hby d5_2) (XT.ii_ge_t c1) (by decide) (by decide) ?_
    refine Own.iconst X0 hx (pc := 14) (0 : Int32) (hb hby d5_14) (by decide) ?_
    exact Own.ireturn X0 hx hk hret (by simp) rfl (hb hby d5_15) e0 ⟨by simp [c1], N0, rfl⟩ (by decide) (by decide)
theorem pd4 : parseMethodDescriptor "([I[I[I[I[I)V" = some ⟨[(.array .int), (.array .int), (.array .int), (.array .int), (.array .int)], none⟩ := by decide +kernel
theorem pd5 : parseMethodDescriptor "(I)I" = some ⟨[.int], some .int⟩ := by decide +kernel
theorem pd6 : parseMethodDescriptor "(IIII)I" = some ⟨[.int, .int, .int, .int], some .int⟩ := by decide +kernel
theorem ef_law (m : MethodId) (a : Int32) (b : Int32) (c0 : Int32) : entryFrame m #[(.int a), (.int b), (.int c0)] maxLocals = mkF m 0 #[.val (.int a), .val (.int b), .val (.int c0), .unset, .unset, .unset, .unset, .unset, .unset, .unset, .unset, .unset, .unset, .unset, .unset, .unset, .unset, .unset, .unset, .unset, .unset, .unset] [] := by first | (simp [entryFrame, mkF, argsToLocals, Value.category, maxLocals]; done) | rfl
set_option maxRecDepth 65536 in
set_option maxHeartbeats 400000000 in
theorem rm0 (l : Launch) (Z : State) (a0 : Array Value) (hw : ∀ d ∈ tables_1, d.before a0 Z = true) (a : Int32) (b : Int32) (c0 : Int32) (h0 : Heap) (n0 : Nat) (Z0 : n0 ≤ h0.size) :
    Own.Ct l x code maxLocals ret tables_1 room_1 Z #[(.int a), (.int b), (.int c0)] h0 (fun v _ L => v = some (.int 1) ∧ Fr n0 L) := by
  refine Own.enter (plainFor_of_name pn3) ?_
  intro p e s m below meth cc s₁ hx hby hml0 hown hnm hret hk hZ X0 e0
  have hml : cc.maxLocals = 22 := hml0
  have N0 := Fr.nil n0
  refine Own.start (ef_law m a b c0) ?_
  refine Own.iloadN X0 hx (pc := 0) (hb hby at_0) rfl ?_
  refine Own.bipush X0 hx (pc := 1) (7 : Int32) (hb hby at_1) (by decide) ?_
  refine Own.iand X0 hx (pc := 3) (hb hby at_3) ?_
  generalize qs1 : (a &&& (7 : Int32)) = s1
  have hs0 := own_s0 a
  rw [qs1] at hs0
  refine Own.istoreN X0 hx (pc := 4) #[.val (.int a), .val (.int b), .val (.int c0), .val (.int s1), .unset, .unset, .unset, .unset, .unset, .unset, .unset, .unset, .unset, .unset, .unset, .unset, .unset, .unset, .unset, .unset, .unset, .unset] (hb hby at_4) rfl ?_
  refine Own.iloadN X0 hx (pc := 5) (hb hby at_5) rfl ?_
  refine Own.iloadN X0 hx (pc := 6) (hb hby at_6) rfl ?_
  refine Own.iconst X0 hx (pc := 7) (3 : Int32) (hb hby at_7) (by decide) ?_
  refine Own.iushr X0 hx (pc := 8) (hb hby at_8) ?_
  refine Own.iconst X0 hx (pc := 9) (3 : Int32) (hb hby at_9) (by decide) ?_
  refine Own.iand X0 hx (pc := 10) (hb hby at_10) ?_
  refine Own.iadd X0 hx (pc := 11) (hb hby at_11) ?_
  generalize qs2 : (s1 + ((XT.ushr a (3 : Int32)) &&& (3 : Int32))) = s2
  have hs1 := own_s s1 (XT.ushr a (3 : Int32)) 7 hs0 (by decide)
  rw [qs2] at hs1
  refine Own.istore X0 hx (pc := 12) #[.val (.int a), .val (.int b), .val (.int c0), .val (.int s1), .val (.int s2), .unset, .unset, .unset, .unset, .unset, .unset, .unset, .unset, .unset, .unset, .unset, .unset, .unset, .unset, .unset, .unset, .unset] (hb hby at_12) rfl ?_
  refine Own.iload X0 hx (pc := 14) (hb hby at_14) rfl ?_
  refine Own.iloadN X0 hx (pc := 16) (hb hby at_16) rfl ?_
  refine Own.iconst X0 hx (pc := 17) (5 : Int32) (hb hby at_17) (by decide) ?_
  refine Own.iushr X0 hx (pc := 18) (hb hby at_18) ?_
  refine Own.iconst X0 hx (pc := 19) (3 : Int32) (hb hby at_19) (by decide) ?_
  refine Own.iand X0 hx (pc := 20) (hb hby at_20) ?_
  refine Own.iadd X0 hx (pc := 21) (hb hby at_21) ?_
  generalize qs3 : (s2 + ((XT.ushr a (5 : Int32)) &&& (3 : Int32))) = s3
  have hs2 := own_s s2 (XT.ushr a (5 : Int32)) 10 ⟨by omega, hs1.2⟩ (by decide)
  rw [qs3] at hs2
  refine Own.istore X0 hx (pc := 22) #[.val (.int a), .val (.int b), .val (.int c0), .val (.int s1), .val (.int s2), .val (.int s3), .unset, .unset, .unset, .unset, .unset, .unset, .unset, .unset, .unset, .unset, .unset, .unset, .unset, .unset, .unset, .unset] (hb hby at_22) rfl ?_
  refine Own.iload X0 hx (pc := 24) (hb hby at_24) rfl ?_
  refine Own.iloadN X0 hx (pc := 26) (hb hby at_26) rfl ?_
  refine Own.bipush X0 hx (pc := 27) (7 : Int32) (hb hby at_27) (by decide) ?_
  refine Own.iushr X0 hx (pc := 29) (hb hby at_29) ?_
  refine Own.iconst X0 hx (pc := 30) (3 : Int32) (hb hby at_30) (by decide) ?_
  refine Own.iand X0 hx (pc := 31) (hb hby at_31) ?_
  refine Own.iadd X0 hx (pc := 32) (hb hby at_32) ?_
  generalize qs4 : (s3 + ((XT.ushr a (7 : Int32)) &&& (3 : Int32))) = s4
  have hs3 := own_s s3 (XT.ushr a (7 : Int32)) 13 ⟨by omega, hs2.2⟩ (by decide)
  rw [qs4] at hs3
  refine Own.istore X0 hx (pc := 33) #[.val (.int a), .val (.int b), .val (.int c0), .val (.int s1), .val (.int s2), .val (.int s3), .val (.int s4), .unset, .unset, .unset, .unset, .unset, .unset, .unset, .unset, .unset, .unset, .unset, .unset, .unset, .unset, .unset] (hb hby at_33) rfl ?_
  refine Own.iload X0 hx (pc := 35) (hb hby at_35) rfl ?_
  refine Own.iloadN X0 hx (pc := 37) (hb hby at_37) rfl ?_
  refine Own.bipush X0 hx (pc := 38) (9 : Int32) (hb hby at_38) (by decide) ?_
  refine Own.iushr X0 hx (pc := 40) (hb hby at_40) ?_
  refine Own.iconst X0 hx (pc := 41) (3 : Int32) (hb hby at_41) (by decide) ?_
  refine Own.iand X0 hx (pc := 42) (hb hby at_42) ?_
  refine Own.iadd X0 hx (pc := 43) (hb hby at_43) ?_
  generalize qs5 : (s4 + ((XT.ushr a (9 : Int32)) &&& (3 : Int32))) = s5
  have hs4 := own_s s4 (XT.ushr a (9 : Int32)) 16 ⟨by omega, hs3.2⟩ (by decide)
  rw [qs5] at hs4
  refine Own.istore X0 hx (pc := 44) #[.val (.int a), .val (.int b), .val (.int c0), .val (.int s1), .val (.int s2), .val (.int s3), .val (.int s4), .val (.int s5), .unset, .unset, .unset, .unset, .unset, .unset, .unset, .unset, .unset, .unset, .unset, .unset, .unset, .unset] (hb hby at_44) rfl ?_
  refine Own.iload X0 hx (pc := 46) (hb hby at_46) rfl ?_
  refine Own.iloadN X0 hx (pc := 48) (hb hby at_48) rfl ?_
  refine Own.bipush X0 hx (pc := 49) (11 : Int32) (hb hby at_49) (by decide) ?_
  refine Own.iushr X0 hx (pc := 51) (hb hby at_51) ?_
  refine Own.iconst X0 hx (pc := 52) (3 : Int32) (hb hby at_52) (by decide) ?_
  refine Own.iand X0 hx (pc := 53) (hb hby at_53) ?_
  refine Own.iadd X0 hx (pc := 54) (hb hby at_54) ?_
  generalize qs6 : (s5 + ((XT.ushr a (11 : Int32)) &&& (3 : Int32))) = s6
  have hs5 := own_s s5 (XT.ushr a (11 : Int32)) 19 ⟨by omega, hs4.2⟩ (by decide)
  rw [qs6] at hs5
  refine Own.istore X0 hx (pc := 55) #[.val (.int a), .val (.int b), .val (.int c0), .val (.int s1), .val (.int s2), .val (.int s3), .val (.int s4), .val (.int s5), .val (.int s6), .unset, .unset, .unset, .unset, .unset, .unset, .unset, .unset, .unset, .unset, .unset, .unset, .unset] (hb hby at_55) rfl ?_
  refine Own.iload X0 hx (pc := 57) (hb hby at_57) rfl ?_
  refine Own.iloadN X0 hx (pc := 59) (hb hby at_59) rfl ?_
  refine Own.bipush X0 hx (pc := 60) (13 : Int32) (hb hby at_60) (by decide) ?_
  refine Own.iushr X0 hx (pc := 62) (hb hby at_62) ?_
  refine Own.iconst X0 hx (pc := 63) (3 : Int32) (hb hby at_63) (by decide) ?_
  refine Own.iand X0 hx (pc := 64) (hb hby at_64) ?_
  refine Own.iadd X0 hx (pc := 65) (hb hby at_65) ?_
  generalize qs7 : (s6 + ((XT.ushr a (13 : Int32)) &&& (3 : Int32))) = s7
  have hs6 := own_s s6 (XT.ushr a (13 : Int32)) 22 ⟨by omega, hs5.2⟩ (by decide)
  rw [qs7] at hs6
  refine Own.istore X0 hx (pc := 66) #[.val (.int a), .val (.int b), .val (.int c0), .val (.int s1), .val (.int s2), .val (.int s3), .val (.int s4), .val (.int s5), .val (.int s6), .val (.int s7), .unset, .unset, .unset, .unset, .unset, .unset, .unset, .unset, .unset, .unset, .unset, .unset] (hb hby at_66) rfl ?_
  refine Own.iload X0 hx (pc := 68) (hb hby at_68) rfl ?_
  refine Own.iloadN X0 hx (pc := 70) (hb hby at_70) rfl ?_
  refine Own.bipush X0 hx (pc := 71) (15 : Int32) (hb hby at_71) (by decide) ?_
  refine Own.iushr X0 hx (pc := 73) (hb hby at_73) ?_
  refine Own.iconst X0 hx (pc := 74) (3 : Int32) (hb hby at_74) (by decide) ?_
  refine Own.iand X0 hx (pc := 75) (hb hby at_75) ?_
  refine Own.iadd X0 hx (pc := 76) (hb hby at_76) ?_
  generalize qs8 : (s7 + ((XT.ushr a (15 : Int32)) &&& (3 : Int32))) = s8
  have hs7 := own_s s7 (XT.ushr a (15 : Int32)) 25 ⟨by omega, hs6.2⟩ (by decide)
  rw [qs8] at hs7
  refine Own.istore X0 hx (pc := 77) #[.val (.int a), .val (.int b), .val (.int c0), .val (.int s1), .val (.int s2), .val (.int s3), .val (.int s4), .val (.int s5), .val (.int s6), .val (.int s7), .val (.int s8), .unset, .unset, .unset, .unset, .unset, .unset, .unset, .unset, .unset, .unset, .unset] (hb hby at_77) rfl ?_
  refine Own.bipush X0 hx (pc := 79) (8 : Int32) (hb hby at_79) (by decide) ?_
  refine Own.newarr X0 hx hZ (pc := 81) (aty := .int) (Wd hw 0 rfl) e0 (hb hby at_81) (by decide) 8 8 (by decide) (by decide) (by decide) (by decide) (by decide) ?_
  intro T9 h9 b9 g9 X9 e9 Ex9 V_b9
  have ge_b9 : n0 ≤ b9 := g9 ▸ Z0
  have sz9 : n0 ≤ h9.size := Nat.le_trans Z0 Ex9.1
  replace V_b9 : Own.VArr Z h9 b9 .int [(.int (0 : Int32)), (.int (0 : Int32)), (.int (0 : Int32)), (.int (0 : Int32)), (.int (0 : Int32)), (.int (0 : Int32)), (.int (0 : Int32)), (.int (0 : Int32))] := V_b9
  refine Own.dup X9 hx (pc := 83) (hb hby at_83) rfl ?_
  refine Own.iconst X9 hx (pc := 84) (0 : Int32) (hb hby at_84) (by decide) ?_
  refine Own.iloadN X9 hx (pc := 85) (hb hby at_85) rfl ?_
  refine Own.iastore X9 hx hZ (pc := 86) e9 V_b9 0 (by decide) (by decide) (of_decide_eq_true rfl) N0 ge_b9 (hb hby at_86) ?_
  intro T10 h10 X10 e10 W10 N10 V_b9
  replace V_b9 : Own.VArr Z h10 b9 .int [(.int s1), (.int (0 : Int32)), (.int (0 : Int32)), (.int (0 : Int32)), (.int (0 : Int32)), (.int (0 : Int32)), (.int (0 : Int32)), (.int (0 : Int32))] := V_b9
  have sz10 : n0 ≤ h10.size := Nat.le_trans sz9 (Nat.le_of_eq (Wr.size W10).symm)
  refine Own.dup X10 hx (pc := 87) (hb hby at_87) rfl ?_
  refine Own.iconst X10 hx (pc := 88) (1 : Int32) (hb hby at_88) (by decide) ?_
  refine Own.iload X10 hx (pc := 89) (hb hby at_89) rfl ?_
  refine Own.iastore X10 hx hZ (pc := 91) e10 V_b9 1 (by decide) (by decide) (of_decide_eq_true rfl) N10 ge_b9 (hb hby at_91) ?_
  intro T11 h11 X11 e11 W11 N11 V_b9
  replace V_b9 : Own.VArr Z h11 b9 .int [(.int s1), (.int s2), (.int (0 : Int32)), (.int (0 : Int32)), (.int (0 : Int32)), (.int (0 : Int32)), (.int (0 : Int32)), (.int (0 : Int32))] := V_b9
  have sz11 : n0 ≤ h11.size := Nat.le_trans sz10 (Nat.le_of_eq (Wr.size W11).symm)
  refine Own.dup X11 hx (pc := 92) (hb hby at_92) rfl ?_
  refine Own.iconst X11 hx (pc := 93) (2 : Int32) (hb hby at_93) (by decide) ?_
  refine Own.iload X11 hx (pc := 94) (hb hby at_94) rfl ?_
  refine Own.iastore X11 hx hZ (pc := 96) e11 V_b9 2 (by decide) (by decide) (of_decide_eq_true rfl) N11 ge_b9 (hb hby at_96) ?_
  intro T12 h12 X12 e12 W12 N12 V_b9
  replace V_b9 : Own.VArr Z h12 b9 .int [(.int s1), (.int s2), (.int s3), (.int (0 : Int32)), (.int (0 : Int32)), (.int (0 : Int32)), (.int (0 : Int32)), (.int (0 : Int32))] := V_b9
  have sz12 : n0 ≤ h12.size := Nat.le_trans sz11 (Nat.le_of_eq (Wr.size W12).symm)
  refine Own.dup X12 hx (pc := 97) (hb hby at_97) rfl ?_
  refine Own.iconst X12 hx (pc := 98) (3 : Int32) (hb hby at_98) (by decide) ?_
  refine Own.iload X12 hx (pc := 99) (hb hby at_99) rfl ?_
  refine Own.iastore X12 hx hZ (pc := 101) e12 V_b9 3 (by decide) (by decide) (of_decide_eq_true rfl) N12 ge_b9 (hb hby at_101) ?_
  intro T13 h13 X13 e13 W13 N13 V_b9
  replace V_b9 : Own.VArr Z h13 b9 .int [(.int s1), (.int s2), (.int s3), (.int s4), (.int (0 : Int32)), (.int (0 : Int32)), (.int (0 : Int32)), (.int (0 : Int32))] := V_b9
  have sz13 : n0 ≤ h13.size := Nat.le_trans sz12 (Nat.le_of_eq (Wr.size W13).symm)
  refine Own.dup X13 hx (pc := 102) (hb hby at_102) rfl ?_
  refine Own.iconst X13 hx (pc := 103) (4 : Int32) (hb hby at_103) (by decide) ?_
  refine Own.iload X13 hx (pc := 104) (hb hby at_104) rfl ?_
  refine Own.iastore X13 hx hZ (pc := 106) e13 V_b9 4 (by decide) (by decide) (of_decide_eq_true rfl) N13 ge_b9 (hb hby at_106) ?_
  intro T14 h14 X14 e14 W14 N14 V_b9
  replace V_b9 : Own.VArr Z h14 b9 .int [(.int s1), (.int s2), (.int s3), (.int s4), (.int s5), (.int (0 : Int32)), (.int (0 : Int32)), (.int (0 : Int32))] := V_b9
  have sz14 : n0 ≤ h14.size := Nat.le_trans sz13 (Nat.le_of_eq (Wr.size W14).symm)
  refine Own.dup X14 hx (pc := 107) (hb hby at_107) rfl ?_
  refine Own.iconst X14 hx (pc := 108) (5 : Int32) (hb hby at_108) (by decide) ?_
  refine Own.iload X14 hx (pc := 109) (hb hby at_109) rfl ?_
  refine Own.iastore X14 hx hZ (pc := 111) e14 V_b9 5 (by decide) (by decide) (of_decide_eq_true rfl) N14 ge_b9 (hb hby at_111) ?_
  intro T15 h15 X15 e15 W15 N15 V_b9
  replace V_b9 : Own.VArr Z h15 b9 .int [(.int s1), (.int s2), (.int s3), (.int s4), (.int s5), (.int s6), (.int (0 : Int32)), (.int (0 : Int32))] := V_b9
  have sz15 : n0 ≤ h15.size := Nat.le_trans sz14 (Nat.le_of_eq (Wr.size W15).symm)
  refine Own.dup X15 hx (pc := 112) (hb hby at_112) rfl ?_
  refine Own.bipush X15 hx (pc := 113) (6 : Int32) (hb hby at_113) (by decide) ?_
  refine Own.iload X15 hx (pc := 115) (hb hby at_115) rfl ?_
  refine Own.iastore X15 hx hZ (pc := 117) e15 V_b9 6 (by decide) (by decide) (of_decide_eq_true rfl) N15 ge_b9 (hb hby at_117) ?_
  intro T16 h16 X16 e16 W16 N16 V_b9
  replace V_b9 : Own.VArr Z h16 b9 .int [(.int s1), (.int s2), (.int s3), (.int s4), (.int s5), (.int s6), (.int s7), (.int (0 : Int32))] := V_b9
  have sz16 : n0 ≤ h16.size := Nat.le_trans sz15 (Nat.le_of_eq (Wr.size W16).symm)
  refine Own.dup X16 hx (pc := 118) (hb hby at_118) rfl ?_
  refine Own.bipush X16 hx (pc := 119) (7 : Int32) (hb hby at_119) (by decide) ?_
  refine Own.iload X16 hx (pc := 121) (hb hby at_121) rfl ?_
  refine Own.iastore X16 hx hZ (pc := 123) e16 V_b9 7 (by decide) (by decide) (of_decide_eq_true rfl) N16 ge_b9 (hb hby at_123) ?_
  intro T17 h17 X17 e17 W17 N17 V_b9
  replace V_b9 : Own.VArr Z h17 b9 .int [(.int s1), (.int s2), (.int s3), (.int s4), (.int s5), (.int s6), (.int s7), (.int s8)] := V_b9
  have sz17 : n0 ≤ h17.size := Nat.le_trans sz16 (Nat.le_of_eq (Wr.size W17).symm)
  refine Own.astore X17 hx (pc := 124) #[.val (.int a), .val (.int b), .val (.int c0), .val (.int s1), .val (.int s2), .val (.int s3), .val (.int s4), .val (.int s5), .val (.int s6), .val (.int s7), .val (.int s8), .val (.ref b9), .unset, .unset, .unset, .unset, .unset, .unset, .unset, .unset, .unset, .unset] (hb hby at_124) rfl rfl ?_
  refine Own.iloadN X17 hx (pc := 126) (hb hby at_126) rfl ?_
  refine Own.bipush X17 hx (pc := 127) (7 : Int32) (hb hby at_127) (by decide) ?_
  refine Own.iand X17 hx (pc := 129) (hb hby at_129) ?_
  refine Own.iconst X17 hx (pc := 130) (5 : Int32) (hb hby at_130) (by decide) ?_
  refine Own.irem X17 hx (pc := 131) (hb hby at_131) (by decide) ?_
  generalize qn18 : ((b &&& (7 : Int32)) % (5 : Int32)) = n18
  refine Own.istore X17 hx (pc := 132) #[.val (.int a), .val (.int b), .val (.int c0), .val (.int s1), .val (.int s2), .val (.int s3), .val (.int s4), .val (.int s5), .val (.int s6), .val (.int s7), .val (.int s8), .val (.ref b9), .val (.int n18), .unset, .unset, .unset, .unset, .unset, .unset, .unset, .unset, .unset] (hb hby at_132) rfl ?_
  refine Own.iloadN X17 hx (pc := 134) (hb hby at_134) rfl ?_
  refine Own.iconst X17 hx (pc := 135) (3 : Int32) (hb hby at_135) (by decide) ?_
  refine Own.iushr X17 hx (pc := 136) (hb hby at_136) ?_
  refine Own.iconst X17 hx (pc := 137) (1 : Int32) (hb hby at_137) (by decide) ?_
  refine Own.iand X17 hx (pc := 138) (hb hby at_138) ?_
  generalize qp19 : ((XT.ushr b (3 : Int32)) &&& (1 : Int32)) = p19
  have hp0 := own_p0 (XT.ushr b (3 : Int32))
  rw [qp19] at hp0
  refine Own.istore X17 hx (pc := 139) #[.val (.int a), .val (.int b), .val (.int c0), .val (.int s1), .val (.int s2), .val (.int s3), .val (.int s4), .val (.int s5), .val (.int s6), .val (.int s7), .val (.int s8), .val (.ref b9), .val (.int n18), .val (.int p19), .unset, .unset, .unset, .unset, .unset, .unset, .unset, .unset] (hb hby at_139) rfl ?_
  refine Own.iconst X17 hx (pc := 141) (2 : Int32) (hb hby at_141) (by decide) ?_
  refine Own.iloadN X17 hx (pc := 142) (hb hby at_142) rfl ?_
  refine Own.iconst X17 hx (pc := 143) (4 : Int32) (hb hby at_143) (by decide) ?_
  refine Own.iushr X17 hx (pc := 144) (hb hby at_144) ?_
  refine Own.iconst X17 hx (pc := 145) (1 : Int32) (hb hby at_145) (by decide) ?_
  refine Own.iand X17 hx (pc := 146) (hb hby at_146) ?_
  refine Own.iadd X17 hx (pc := 147) (hb hby at_147) ?_
  generalize qp20 : ((2 : Int32) + ((XT.ushr b (4 : Int32)) &&& (1 : Int32))) = p20
  have hp1 := own_p (2 : Int32) (XT.ushr b (4 : Int32)) 2 (by decide) (by decide)
  rw [qp20] at hp1
  refine Own.istore X17 hx (pc := 148) #[.val (.int a), .val (.int b), .val (.int c0), .val (.int s1), .val (.int s2), .val (.int s3), .val (.int s4), .val (.int s5), .val (.int s6), .val (.int s7), .val (.int s8), .val (.ref b9), .val (.int n18), .val (.int p19), .val (.int p20), .unset, .unset, .unset, .unset, .unset, .unset, .unset] (hb hby at_148) rfl ?_
  refine Own.iconst X17 hx (pc := 150) (4 : Int32) (hb hby at_150) (by decide) ?_
  refine Own.iloadN X17 hx (pc := 151) (hb hby at_151) rfl ?_
  refine Own.iconst X17 hx (pc := 152) (5 : Int32) (hb hby at_152) (by decide) ?_
  refine Own.iushr X17 hx (pc := 153) (hb hby at_153) ?_
  refine Own.iconst X17 hx (pc := 154) (1 : Int32) (hb hby at_154) (by decide) ?_
  refine Own.iand X17 hx (pc := 155) (hb hby at_155) ?_
  refine Own.iadd X17 hx (pc := 156) (hb hby at_156) ?_
  generalize qp21 : ((4 : Int32) + ((XT.ushr b (5 : Int32)) &&& (1 : Int32))) = p21
  have hp2 := own_p (4 : Int32) (XT.ushr b (5 : Int32)) 4 (by decide) (by decide)
  rw [qp21] at hp2
  refine Own.istore X17 hx (pc := 157) #[.val (.int a), .val (.int b), .val (.int c0), .val (.int s1), .val (.int s2), .val (.int s3), .val (.int s4), .val (.int s5), .val (.int s6), .val (.int s7), .val (.int s8), .val (.ref b9), .val (.int n18), .val (.int p19), .val (.int p20), .val (.int p21), .unset, .unset, .unset, .unset, .unset, .unset] (hb hby at_157) rfl ?_
  refine Own.bipush X17 hx (pc := 159) (6 : Int32) (hb hby at_159) (by decide) ?_
  refine Own.iloadN X17 hx (pc := 161) (hb hby at_161) rfl ?_
  refine Own.bipush X17 hx (pc := 162) (6 : Int32) (hb hby at_162) (by decide) ?_
  refine Own.iushr X17 hx (pc := 164) (hb hby at_164) ?_
  refine Own.iconst X17 hx (pc := 165) (1 : Int32) (hb hby at_165) (by decide) ?_
  refine Own.iand X17 hx (pc := 166) (hb hby at_166) ?_
  refine Own.iadd X17 hx (pc := 167) (hb hby at_167) ?_
  generalize qp22 : ((6 : Int32) + ((XT.ushr b (6 : Int32)) &&& (1 : Int32))) = p22
  have hp3 := own_p (6 : Int32) (XT.ushr b (6 : Int32)) 6 (by decide) (by decide)
  rw [qp22] at hp3
  refine Own.istore X17 hx (pc := 168) #[.val (.int a), .val (.int b), .val (.int c0), .val (.int s1), .val (.int s2), .val (.int s3), .val (.int s4), .val (.int s5), .val (.int s6), .val (.int s7), .val (.int s8), .val (.ref b9), .val (.int n18), .val (.int p19), .val (.int p20), .val (.int p21), .val (.int p22), .unset, .unset, .unset, .unset, .unset] (hb hby at_168) rfl ?_
  rcases own_n _ qn18 with rfl | rfl | rfl | rfl | rfl
  · refine Own.iload X17 hx (pc := 170) (hb hby at_170) rfl ?_
    refine Own.ifNo X17 hx (pc := 172) (hb hby at_172) (by decide) ?_
    refine Own.iconst X17 hx (pc := 175) (0 : Int32) (hb hby at_175) (by decide) ?_
    refine Own.newarr X17 hx hZ (pc := 176) (aty := .int) (Wd hw 0 rfl) e17 (hb hby at_176) (by decide) 0 0 (by decide) (by decide) (by decide) (by decide) (by decide) ?_
    intro T23 h23 b23 g23 X23 e23 Ex23 V_b23
    have ne_b9_b23 : b9 ≠ b23 := Nat.ne_of_lt (g23 ▸ V_b9.lt)
    have V_b9 := V_b9.ext Ex23
    have ge_b23 : n0 ≤ b23 := g23 ▸ sz17
    have sz23 : n0 ≤ h23.size := Nat.le_trans sz17 Ex23.1
    replace V_b23 : Own.VArr Z h23 b23 .int ([] : List Value) := V_b23
    refine Own.astore X23 hx (pc := 178) #[.val (.int a), .val (.int b), .val (.int c0), .val (.int s1), .val (.int s2), .val (.int s3), .val (.int s4), .val (.int s5), .val (.int s6), .val (.int s7), .val (.int s8), .val (.ref b9), .val (.int (0 : Int32)), .val (.int p19), .val (.int p20), .val (.int p21), .val (.int p22), .val (.ref b23), .unset, .unset, .unset, .unset] (hb hby at_178) rfl rfl ?_
    refine Own.goto X23 hx (pc := 180) 280 (hb hby at_180) (by decide) (by decide) ?_
    refine Own.iloadN X23 hx (pc := 280) (hb hby at_280) rfl ?_
    refine Own.iconst X23 hx (pc := 281) (1 : Int32) (hb hby at_281) (by decide) ?_
    refine Own.iand X23 hx (pc := 282) (hb hby at_282) ?_
    by_cases c24 : (c0 &&& (1 : Int32)) = (0 : Int32)
    · refine Own.ifYes X23 hx (pc := 283) 292 (hb hby at_283) (XT.i0_eq_t c24) (by decide) (by decide) ?_
      refine Own.iloadN X23 hx (pc := 292) (hb hby at_292) rfl ?_
      refine Own.iconst X23 hx (pc := 293) (1 : Int32) (hb hby at_293) (by decide) ?_
      refine Own.iushr X23 hx (pc := 294) (hb hby at_294) ?_
      refine Own.bipush X23 hx (pc := 295) (31 : Int32) (hb hby at_295) (by decide) ?_
      refine Own.iand X23 hx (pc := 297) (hb hby at_297) ?_
      generalize qnd25 : ((XT.ushr c0 (1 : Int32)) &&& (31 : Int32)) = nd25
      refine Own.istore X23 hx (pc := 298) #[.val (.int a), .val (.int b), .val (.int c0), .val (.int s1), .val (.int s2), .val (.int s3), .val (.int s4), .val (.int s5), .val (.int s6), .val (.int s7), .val (.int s8), .val (.ref b9), .val (.int (0 : Int32)), .val (.int p19), .val (.int p20), .val (.int p21), .val (.int p22), .val (.ref b23), .val (.int nd25), .unset, .unset, .unset] (hb hby at_298) rfl ?_
      refine Own.newobj X23 hx hZ (pc := 300) hown (Wd hw 1 rfl) (Wd hw 2 rfl) (Wd hw 3 rfl) e23 (hb hby at_300) (by decide) (by decide) ?_
      intro T26 h26 b26 g26 X26 e26 Ex26 E_b26 D26
      have ne_b9_b26 : b9 ≠ b26 := Nat.ne_of_lt (g26 ▸ V_b9.lt)
      have ne_b23_b26 : b23 ≠ b26 := Nat.ne_of_lt (g26 ▸ V_b23.lt)
      have V_b9 := V_b9.ext Ex26
      have V_b23 := V_b23.ext Ex26
      have ge_b26 : n0 ≤ b26 := g26 ▸ sz23
      have sz26 : n0 ≤ h26.size := Nat.le_trans sz23 Ex26.1
      have F_b26_heads : Fld Z h26 b26 "com/example/hopwise/hopwise/paths/ArcChanges" "heads" "[I" .null := D26 (Or.inr (Wd hw 16 rfl)) (ty := (.array .int)) (by decide)
      have F_b26_starts : Fld Z h26 b26 "com/example/hopwise/hopwise/paths/ArcChanges" "starts" "[I" .null := D26 (Or.inr (Wd hw 18 rfl)) (ty := (.array .int)) (by decide)
      have F_b26_arcs : Fld Z h26 b26 "com/example/hopwise/hopwise/paths/ArcChanges" "arcs" "[I" .null := D26 (Or.inr (Wd hw 20 rfl)) (ty := (.array .int)) (by decide)
      have F_b26_shortened : Fld Z h26 b26 "com/example/hopwise/hopwise/paths/ArcChanges" "shortened" "[I" .null := D26 (Or.inr (Wd hw 22 rfl)) (ty := (.array .int)) (by decide)
      have F_b26_lengthsBefore : Fld Z h26 b26 "com/example/hopwise/hopwise/paths/ArcChanges" "lengthsBefore" "[I" .null := D26 (Or.inr (Wd hw 24 rfl)) (ty := (.array .int)) (by decide)
      refine Own.dup X26 hx (pc := 303) (hb hby at_303) rfl ?_
      refine Own.iconst X26 hx (pc := 304) (0 : Int32) (hb hby at_304) (by decide) ?_
      refine Own.newarr X26 hx hZ (pc := 305) (aty := .int) (Wd hw 0 rfl) e26 (hb hby at_305) (by decide) 0 0 (by decide) (by decide) (by decide) (by decide) (by decide) ?_
      intro T27 h27 b27 g27 X27 e27 Ex27 V_b27
      have ne_b9_b27 : b9 ≠ b27 := Nat.ne_of_lt (g27 ▸ V_b9.lt)
      have ne_b23_b27 : b23 ≠ b27 := Nat.ne_of_lt (g27 ▸ V_b23.lt)
      have ne_b26_b27 : b26 ≠ b27 := Nat.ne_of_lt (g27 ▸ E_b26.lt)
      have V_b9 := V_b9.ext Ex27
      have V_b23 := V_b23.ext Ex27
      have E_b26 := Exa.ext Ex27 E_b26
      have F_b26_heads := Fld.ext Ex27 F_b26_heads
      have F_b26_starts := Fld.ext Ex27 F_b26_starts
      have F_b26_arcs := Fld.ext Ex27 F_b26_arcs
      have F_b26_shortened := Fld.ext Ex27 F_b26_shortened
      have F_b26_lengthsBefore := Fld.ext Ex27 F_b26_lengthsBefore
      have ge_b27 : n0 ≤ b27 := g27 ▸ sz26
      have sz27 : n0 ≤ h27.size := Nat.le_trans sz26 Ex27.1
      replace V_b27 : Own.VArr Z h27 b27 .int ([] : List Value) := V_b27
      refine Own.aload X27 hx (pc := 307) (hb hby at_307) rfl rfl ?_
      refine Own.bipush X27 hx (pc := 309) (8 : Int32) (hb hby at_309) (by decide) ?_
      refine Own.newarr X27 hx hZ (pc := 311) (aty := .int) (Wd hw 0 rfl) e27 (hb hby at_311) (by decide) 8 8 (by decide) (by decide) (by decide) (by decide) (by decide) ?_
      intro T28 h28 b28 g28 X28 e28 Ex28 V_b28
      have ne_b9_b28 : b9 ≠ b28 := Nat.ne_of_lt (g28 ▸ V_b9.lt)
      have ne_b23_b28 : b23 ≠ b28 := Nat.ne_of_lt (g28 ▸ V_b23.lt)
      have ne_b26_b28 : b26 ≠ b28 := Nat.ne_of_lt (g28 ▸ E_b26.lt)
      have ne_b27_b28 : b27 ≠ b28 := Nat.ne_of_lt (g28 ▸ V_b27.lt)
      have V_b9 := V_b9.ext Ex28
      have V_b23 := V_b23.ext Ex28
      have E_b26 := Exa.ext Ex28 E_b26
      have F_b26_heads := Fld.ext Ex28 F_b26_heads
      have F_b26_starts := Fld.ext Ex28 F_b26_starts
      have F_b26_arcs := Fld.ext Ex28 F_b26_arcs
      have F_b26_shortened := Fld.ext Ex28 F_b26_shortened
      have F_b26_lengthsBefore := Fld.ext Ex28 F_b26_lengthsBefore
      have V_b27 := V_b27.ext Ex28
      have ge_b28 : n0 ≤ b28 := g28 ▸ sz27
      have sz28 : n0 ≤ h28.size := Nat.le_trans sz27 Ex28.1
      replace V_b28 : Own.VArr Z h28 b28 .int [(.int (0 : Int32)), (.int (0 : Int32)), (.int (0 : Int32)), (.int (0 : Int32)), (.int (0 : Int32)), (.int (0 : Int32)), (.int (0 : Int32)), (.int (0 : Int32))] := V_b28
      refine Own.aload X28 hx (pc := 313) (hb hby at_313) rfl rfl ?_
      refine Own.iconst X28 hx (pc := 315) (4 : Int32) (hb hby at_315) (by decide) ?_
      refine Own.newarr X28 hx hZ (pc := 316) (aty := .int) (Wd hw 0 rfl) e28 (hb hby at_316) (by decide) 4 4 (by decide) (by decide) (by decide) (by decide) (by decide) ?_
      intro T29 h29 b29 g29 X29 e29 Ex29 V_b29
      have ne_b9_b29 : b9 ≠ b29 := Nat.ne_of_lt (g29 ▸ V_b9.lt)
      have ne_b23_b29 : b23 ≠ b29 := Nat.ne_of_lt (g29 ▸ V_b23.lt)
      have ne_b26_b29 : b26 ≠ b29 := Nat.ne_of_lt (g29 ▸ E_b26.lt)
      have ne_b27_b29 : b27 ≠ b29 := Nat.ne_of_lt (g29 ▸ V_b27.lt)
      have ne_b28_b29 : b28 ≠ b29 := Nat.ne_of_lt (g29 ▸ V_b28.lt)
      have V_b9 := V_b9.ext Ex29
      have V_b23 := V_b23.ext Ex29
      have E_b26 := Exa.ext Ex29 E_b26
      have F_b26_heads := Fld.ext Ex29 F_b26_heads
      have F_b26_starts := Fld.ext Ex29 F_b26_starts
      have F_b26_arcs := Fld.ext Ex29 F_b26_arcs
      have F_b26_shortened := Fld.ext Ex29 F_b26_shortened
      have F_b26_lengthsBefore := Fld.ext Ex29 F_b26_lengthsBefore
      have V_b27 := V_b27.ext Ex29
      have V_b28 := V_b28.ext Ex29
      have ge_b29 : n0 ≤ b29 := g29 ▸ sz28
      have sz29 : n0 ≤ h29.size := Nat.le_trans sz28 Ex29.1
      replace V_b29 : Own.VArr Z h29 b29 .int [(.int (0 : Int32)), (.int (0 : Int32)), (.int (0 : Int32)), (.int (0 : Int32))] := V_b29
      refine Own.callSpecial X29 hx hZ (pc := 318) (y := (⟨"com/example/hopwise/hopwise/paths/ArcChanges", "<init>", "([I[I[I[I[I)V"⟩ : MethodName)) rfl hown (Wd hw 4 rfl) (Wd hw 5 rfl) (Wd hw 3 rfl) (Wd hw 6 rfl) (by decide) 1 b26 [(.ref b27), (.ref b9), (.ref b28), (.ref b23), (.ref b29)] [(.ref b26)] (rm1 l Z a0 hw b26 b27 b9 b28 b23 b29 h29 n0 sz29 E_b26 F_b26_heads F_b26_starts F_b26_arcs F_b26_shortened F_b26_lengthsBefore ge_b26) (by decide) (by decide) e29 (by rw [hml]; rfl) pd4 rfl rfl (Nat.le_of_eq rfl) (hb hby at_318) (by decide) (by decide) ?_
      intro T30 L30 v30 X30 hQ30
      obtain ⟨rfl, Nq30, K30, F_b26_starts', F_b26_shortened'⟩ := hQ30
      have e30 : T30.heap = T30.heap := rfl
      have V_b9 := V_b9.keep K30 (ninS ne_b9_b26 nin0)
      have V_b23 := V_b23.keep K30 (ninS ne_b23_b26 nin0)
      have E_b26 := E_b26.keep K30
      have V_b27 := V_b27.keep K30 (ninS (Ne.symm ne_b26_b27) nin0)
      have V_b28 := V_b28.keep K30 (ninS (Ne.symm ne_b26_b28) nin0)
      have V_b29 := V_b29.keep K30 (ninS (Ne.symm ne_b26_b29) nin0)
      have sz30 : n0 ≤ T30.heap.size := Nat.le_trans sz29 K30.1
      have F_b26_starts := F_b26_starts'
      have F_b26_shortened := F_b26_shortened'
      have N30 := Fr.app N17 Nq30
      show Own.Go p e below _ (T30.setTop (mkF m 321 #[.val (.int a), .val (.int b), .val (.int c0), .val (.int s1), .val (.int s2), .val (.int s3), .val (.int s4), .val (.int s5), .val (.int s6), .val (.int s7), .val (.int s8), .val (.ref b9), .val (.int (0 : Int32)), .val (.int p19), .val (.int p20), .val (.int p21), .val (.int p22), .val (.ref b23), .val (.int nd25), .unset, .unset, .unset] [(.ref b26)]))
      refine Own.astore X30 hx (pc := 321) #[.val (.int a), .val (.int b), .val (.int c0), .val (.int s1), .val (.int s2), .val (.int s3), .val (.int s4), .val (.int s5), .val (.int s6), .val (.int s7), .val (.int s8), .val (.ref b9), .val (.int (0 : Int32)), .val (.int p19), .val (.int p20), .val (.int p21), .val (.int p22), .val (.ref b23), .val (.int nd25), .val (.ref b26), .unset, .unset] (hb hby at_321) rfl rfl ?_
      refine Own.aload X30 hx (pc := 323) (hb hby at_323) rfl rfl ?_
      refine Own.iload X30 hx (pc := 325) (hb hby at_325) rfl ?_
      refine Own.callVirtual X30 hx hZ (pc := 327) (y := (⟨"com/example/hopwise/hopwise/paths/ArcChanges", "firstShortenedOutOf", "(I)I"⟩ : MethodName)) (z := (⟨"com/example/hopwise/hopwise/paths/ArcChanges", "firstShortenedOutOf", "(I)I"⟩ : MethodName)) hown (Wd hw 25 rfl) (Wd hw 26 rfl) (Wd hw 28 rfl) (Wd hw 27 rfl) (Wd hw 3 rfl) (Wd hw 29 rfl) (Wd hw 28 rfl) (by decide) 0 b26 [(.int nd25)] [] E_b26 (rm4_0 l Z a0 hw b26 nd25 b9 b23 ([(.int s1), (.int s2), (.int s3), (.int s4), (.int s5), (.int s6), (.int s7), (.int s8)]) T30.heap n0 sz30 F_b26_starts F_b26_shortened V_b9 V_b23) (by decide) (by decide) e30 (by rw [hml]; rfl) pd5 rfl rfl (Nat.le_of_eq rfl) (hb hby at_327) (by decide) (by decide) ?_
      intro T31 L31 v31 X31 hQ31
      obtain ⟨rfl, Nq31, e31⟩ := hQ31
      have N31 := Fr.app N30 Nq31
      show Own.Go p e below _ (T31.setTop (mkF m 330 #[.val (.int a), .val (.int b), .val (.int c0), .val (.int s1), .val (.int s2), .val (.int s3), .val (.int s4), .val (.int s5), .val (.int s6), .val (.int s7), .val (.int s8), .val (.ref b9), .val (.int (0 : Int32)), .val (.int p19), .val (.int p20), .val (.int p21), .val (.int p22), .val (.ref b23), .val (.int nd25), .val (.ref b26), .unset, .unset] [(.int (0 : Int32))]))
      refine Own.istore X31 hx (pc := 330) #[.val (.int a), .val (.int b), .val (.int c0), .val (.int s1), .val (.int s2), .val (.int s3), .val (.int s4), .val (.int s5), .val (.int s6), .val (.int s7), .val (.int s8), .val (.ref b9), .val (.int (0 : Int32)), .val (.int p19), .val (.int p20), .val (.int p21), .val (.int p22), .val (.ref b23), .val (.int nd25), .val (.ref b26), .val (.int (0 : Int32)), .unset] (hb hby at_330) rfl ?_
      refine Own.iload X31 hx (pc := 332) (hb hby at_332) rfl ?_
      refine Own.iconst X31 hx (pc := 334) (0 : Int32) (hb hby at_334) (by decide) ?_
      refine Own.aload X31 hx (pc := 335) (hb hby at_335) rfl rfl ?_
      refine Own.iload X31 hx (pc := 337) (hb hby at_337) rfl ?_
      refine Own.iaload X31 hx hZ (pc := 339) e31 V_b9 (v := (.int (if p19.toInt = 0 then s1 else s2))) p19.toNatClampNeg (own_ge hp0 (by decide)) rfl (own_pick (K := 0) hp0 rfl rfl) (hb hby at_339) ?_
      refine Own.iload X31 hx (pc := 340) (hb hby at_340) rfl ?_
      refine Own.callStatic X31 hx hZ (pc := 342) (y := (⟨"com/example/hopwise/hopwise/paths/ArcChangesFirstShortenedOutOfPinLaw", "below", "(IIII)I"⟩ : MethodName)) hown (Wd hw 30 rfl) (Wd hw 31 rfl) (Wd hw 32 rfl) (Wd hw 33 rfl) (by decide) 0 [(.int (0 : Int32)), (.int (0 : Int32)), (.int (if p19.toInt = 0 then s1 else s2)), (.int nd25)] [] (rm5 l Z a0 hw (0 : Int32) (0 : Int32) (if p19.toInt = 0 then s1 else s2) nd25 T30.heap n0 sz30 ) (by decide) (by decide) e31 (by rw [hml]; rfl) pd6 rfl rfl (Nat.le_of_eq rfl) (hb hby at_342) (by decide) (by decide) ?_
      intro T32 L32 v32 X32 hQ32
      obtain ⟨rfl, Nq32, e32⟩ := hQ32
      have N32 := Fr.app N31 Nq32
      show Own.Go p e below _ (T32.setTop (mkF m 345 #[.val (.int a), .val (.int b), .val (.int c0), .val (.int s1), .val (.int s2), .val (.int s3), .val (.int s4), .val (.int s5), .val (.int s6), .val (.int s7), .val (.int s8), .val (.ref b9), .val (.int (0 : Int32)), .val (.int p19), .val (.int p20), .val (.int p21), .val (.int p22), .val (.ref b23), .val (.int nd25), .val (.ref b26), .val (.int (0 : Int32)), .unset] [(.int (if ((0 : Int32) < (0 : Int32) ∧ (if p19.toInt = 0 then s1 else s2) < nd25) then (1 : Int32) else 0))]))
      refine Own.iload X32 hx (pc := 345) (hb hby at_345) rfl ?_
      refine Own.iconst X32 hx (pc := 347) (1 : Int32) (hb hby at_347) (by decide) ?_
      refine Own.aload X32 hx (pc := 348) (hb hby at_348) rfl rfl ?_
      refine Own.iload X32 hx (pc := 350) (hb hby at_350) rfl ?_
      refine Own.iaload X32 hx hZ (pc := 352) e32 V_b9 (v := (.int (if p20.toInt = 2 then s3 else s4))) p20.toNatClampNeg (own_ge hp1 (by decide)) rfl (own_pick (K := 2) hp1 rfl rfl) (hb hby at_352) ?_
      refine Own.iload X32 hx (pc := 353) (hb hby at_353) rfl ?_
      refine Own.callStatic X32 hx hZ (pc := 355) (y := (⟨"com/example/hopwise/hopwise/paths/ArcChangesFirstShortenedOutOfPinLaw", "below", "(IIII)I"⟩ : MethodName)) hown (Wd hw 30 rfl) (Wd hw 31 rfl) (Wd hw 32 rfl) (Wd hw 33 rfl) (by decide) 1 [(.int (0 : Int32)), (.int (1 : Int32)), (.int (if p20.toInt = 2 then s3 else s4)), (.int nd25)] [(.int (if ((0 : Int32) < (0 : Int32) ∧ (if p19.toInt = 0 then s1 else s2) < nd25) then (1 : Int32) else 0))] (rm5 l Z a0 hw (0 : Int32) (1 : Int32) (if p20.toInt = 2 then s3 else s4) nd25 T30.heap n0 sz30 ) (by decide) (by decide) e32 (by rw [hml]; rfl) pd6 rfl rfl (Nat.le_of_eq rfl) (hb hby at_355) (by decide) (by decide) ?_
      intro T33 L33 v33 X33 hQ33
      obtain ⟨rfl, Nq33, e33⟩ := hQ33
      have N33 := Fr.app N32 Nq33
      show Own.Go p e below _ (T33.setTop (mkF m 358 #[.val (.int a), .val (.int b), .val (.int c0), .val (.int s1), .val (.int s2), .val (.int s3), .val (.int s4), .val (.int s5), .val (.int s6), .val (.int s7), .val (.int s8), .val (.ref b9), .val (.int (0 : Int32)), .val (.int p19), .val (.int p20), .val (.int p21), .val (.int p22), .val (.ref b23), .val (.int nd25), .val (.ref b26), .val (.int (0 : Int32)), .unset] [(.int (if ((1 : Int32) < (0 : Int32) ∧ (if p20.toInt = 2 then s3 else s4) < nd25) then (1 : Int32) else 0)), (.int (if ((0 : Int32) < (0 : Int32) ∧ (if p19.toInt = 0 then s1 else s2) < nd25) then (1 : Int32) else 0))]))
      refine Own.iadd X33 hx (pc := 358) (hb hby at_358) ?_
      refine Own.iload X33 hx (pc := 359) (hb hby at_359) rfl ?_
      refine Own.iconst X33 hx (pc := 361) (2 : Int32) (hb hby at_361) (by decide) ?_
      refine Own.aload X33 hx (pc := 362) (hb hby at_362) rfl rfl ?_
      refine Own.iload X33 hx (pc := 364) (hb hby at_364) rfl ?_
      refine Own.iaload X33 hx hZ (pc := 366) e33 V_b9 (v := (.int (if p21.toInt = 4 then s5 else s6))) p21.toNatClampNeg (own_ge hp2 (by decide)) rfl (own_pick (K := 4) hp2 rfl rfl) (hb hby at_366) ?_
      refine Own.iload X33 hx (pc := 367) (hb hby at_367) rfl ?_
      refine Own.callStatic X33 hx hZ (pc := 369) (y := (⟨"com/example/hopwise/hopwise/paths/ArcChangesFirstShortenedOutOfPinLaw", "below", "(IIII)I"⟩ : MethodName)) hown (Wd hw 30 rfl) (Wd hw 31 rfl) (Wd hw 32 rfl) (Wd hw 33 rfl) (by decide) 1 [(.int (0 : Int32)), (.int (2 : Int32)), (.int (if p21.toInt = 4 then s5 else s6)), (.int nd25)] [(.int ((if ((0 : Int32) < (0 : Int32) ∧ (if p19.toInt = 0 then s1 else s2) < nd25) then (1 : Int32) else 0) + (if ((1 : Int32) < (0 : Int32) ∧ (if p20.toInt = 2 then s3 else s4) < nd25) then (1 : Int32) else 0)))] (rm5 l Z a0 hw (0 : Int32) (2 : Int32) (if p21.toInt = 4 then s5 else s6) nd25 T30.heap n0 sz30 ) (by decide) (by decide) e33 (by rw [hml]; rfl) pd6 rfl rfl (Nat.le_of_eq rfl) (hb hby at_369) (by decide) (by decide) ?_
      intro T34 L34 v34 X34 hQ34
      obtain ⟨rfl, Nq34, e34⟩ := hQ34
      have N34 := Fr.app N33 Nq34
      show Own.Go p e below _ (T34.setTop (mkF m 372 #[.val (.int a), .val (.int b), .val (.int c0), .val (.int s1), .val (.int s2), .val (.int s3), .val (.int s4), .val (.int s5), .val (.int s6), .val (.int s7), .val (.int s8), .val (.ref b9), .val (.int (0 : Int32)), .val (.int p19), .val (.int p20), .val (.int p21), .val (.int p22), .val (.ref b23), .val (.int nd25), .val (.ref b26), .val (.int (0 : Int32)), .unset] [(.int (if ((2 : Int32) < (0 : Int32) ∧ (if p21.toInt = 4 then s5 else s6) < nd25) then (1 : Int32) else 0)), (.int ((if ((0 : Int32) < (0 : Int32) ∧ (if p19.toInt = 0 then s1 else s2) < nd25) then (1 : Int32) else 0) + (if ((1 : Int32) < (0 : Int32) ∧ (if p20.toInt = 2 then s3 else s4) < nd25) then (1 : Int32) else 0)))]))
      refine Own.iadd X34 hx (pc := 372) (hb hby at_372) ?_
      refine Own.iload X34 hx (pc := 373) (hb hby at_373) rfl ?_
      refine Own.iconst X34 hx (pc := 375) (3 : Int32) (hb hby at_375) (by decide) ?_
      refine Own.aload X34 hx (pc := 376) (hb hby at_376) rfl rfl ?_
      refine Own.iload X34 hx (pc := 378) (hb hby at_378) rfl ?_
      refine Own.iaload X34 hx hZ (pc := 380) e34 V_b9 (v := (.int (if p22.toInt = 6 then s7 else s8))) p22.toNatClampNeg (own_ge hp3 (by decide)) rfl (own_pick (K := 6) hp3 rfl rfl) (hb hby at_380) ?_
      refine Own.iload X34 hx (pc := 381) (hb hby at_381) rfl ?_
      refine Own.callStatic X34 hx hZ (pc := 383) (y := (⟨"com/example/hopwise/hopwise/paths/ArcChangesFirstShortenedOutOfPinLaw", "below", "(IIII)I"⟩ : MethodName)) hown (Wd hw 30 rfl) (Wd hw 31 rfl) (Wd hw 32 rfl) (Wd hw 33 rfl) (by decide) 1 [(.int (0 : Int32)), (.int (3 : Int32)), (.int (if p22.toInt = 6 then s7 else s8)), (.int nd25)] [(.int (((if ((0 : Int32) < (0 : Int32) ∧ (if p19.toInt = 0 then s1 else s2) < nd25) then (1 : Int32) else 0) + (if ((1 : Int32) < (0 : Int32) ∧ (if p20.toInt = 2 then s3 else s4) < nd25) then (1 : Int32) else 0)) + (if ((2 : Int32) < (0 : Int32) ∧ (if p21.toInt = 4 then s5 else s6) < nd25) then (1 : Int32) else 0)))] (rm5 l Z a0 hw (0 : Int32) (3 : Int32) (if p22.toInt = 6 then s7 else s8) nd25 T30.heap n0 sz30 ) (by decide) (by decide) e34 (by rw [hml]; rfl) pd6 rfl rfl (Nat.le_of_eq rfl) (hb hby at_383) (by decide) (by decide) ?_
      intro T35 L35 v35 X35 hQ35
      obtain ⟨rfl, Nq35, e35⟩ := hQ35
      have N35 := Fr.app N34 Nq35
      show Own.Go p e below _ (T35.setTop (mkF m 386 #[.val (.int a), .val (.int b), .val (.int c0), .val (.int s1), .val (.int s2), .val (.int s3), .val (.int s4), .val (.int s5), .val (.int s6), .val (.int s7), .val (.int s8), .val (.ref b9), .val (.int (0 : Int32)), .val (.int p19), .val (.int p20), .val (.int p21), .val (.int p22), .val (.ref b23), .val (.int nd25), .val (.ref b26), .val (.int (0 : Int32)), .unset] [(.int (if ((3 : Int32) < (0 : Int32) ∧ (if p22.toInt = 6 then s7 else s8) < nd25) then (1 : Int32) else 0)), (.int (((if ((0 : Int32) < (0 : Int32) ∧ (if p19.toInt = 0 then s1 else s2) < nd25) then (1 : Int32) else 0) + (if ((1 : Int32) < (0 : Int32) ∧ (if p20.toInt = 2 then s3 else s4) < nd25) then (1 : Int32) else 0)) + (if ((2 : Int32) < (0 : Int32) ∧ (if p21.toInt = 4 then s5 else s6) < nd25) then (1 : Int32) else 0)))]))
      refine Own.iadd X35 hx (pc := 386) (hb hby at_386) ?_
      refine Own.istore X35 hx (pc := 387) #[.val (.int a), .val (.int b), .val (.int c0), .val (.int s1), .val (.int s2), .val (.int s3), .val (.int s4), .val (.int s5), .val (.int s6), .val (.int s7), .val (.int s8), .val (.ref b9), .val (.int (0 : Int32)), .val (.int p19), .val (.int p20), .val (.int p21), .val (.int p22), .val (.ref b23), .val (.int nd25), .val (.ref b26), .val (.int (0 : Int32)), .val (.int ((((if ((0 : Int32) < (0 : Int32) ∧ (if p19.toInt = 0 then s1 else s2) < nd25) then (1 : Int32) else 0) + (if ((1 : Int32) < (0 : Int32) ∧ (if p20.toInt = 2 then s3 else s4) < nd25) then (1 : Int32) else 0)) + (if ((2 : Int32) < (0 : Int32) ∧ (if p21.toInt = 4 then s5 else s6) < nd25) then (1 : Int32) else 0)) + (if ((3 : Int32) < (0 : Int32) ∧ (if p22.toInt = 6 then s7 else s8) < nd25) then (1 : Int32) else 0)))] (hb hby at_387) rfl ?_
      refine Own.iload X35 hx (pc := 389) (hb hby at_389) rfl ?_
      refine Own.iload X35 hx (pc := 391) (hb hby at_391) rfl ?_
      refine Own.icmpNo X35 hx (pc := 393) (hb hby at_393) (XT.ii_ne_f (by simp)) ?_
      refine Own.iconst X35 hx (pc := 396) (1 : Int32) (hb hby at_396) (by decide) ?_
      refine Own.goto X35 hx (pc := 397) 401 (hb hby at_397) (by decide) (by decide) ?_
      exact Own.ireturn X35 hx hk hret (by simp) rfl (hb hby at_401) e35 ⟨rfl, N35⟩ (by decide) (by decide)
    · refine Own.ifNo X23 hx (pc := 283) (hb hby at_283) (XT.i0_eq_f c24) ?_
      refine Own.iloadN X23 hx (pc := 286) (hb hby at_286) rfl ?_
      refine Own.iconst X23 hx (pc := 287) (1 : Int32) (hb hby at_287) (by decide) ?_
      refine Own.ishr X23 hx (pc := 288) (hb hby at_288) ?_
      refine Own.goto X23 hx (pc := 289) 298 (hb hby at_289) (by decide) (by decide) ?_
      generalize qnd36 : (c0 >>> ((1 : Int32) &&& 31)) = nd36
      refine Own.istore X23 hx (pc := 298) #[.val (.int a), .val (.int b), .val (.int c0), .val (.int s1), .val (.int s2), .val (.int s3), .val (.int s4), .val (.int s5), .val (.int s6), .val (.int s7), .val (.int s8), .val (.ref b9), .val (.int (0 : Int32)), .val (.int p19), .val (.int p20), .val (.int p21), .val (.int p22), .val (.ref b23), .val (.int nd36), .unset, .unset, .unset] (hb hby at_298) rfl ?_
      refine Own.newobj X23 hx hZ (pc := 300) hown (Wd hw 1 rfl) (Wd hw 2 rfl) (Wd hw 3 rfl) e23 (hb hby at_300) (by decide) (by decide) ?_
      intro T37 h37 b37 g37 X37 e37 Ex37 E_b37 D37
      have ne_b9_b37 : b9 ≠ b37 := Nat.ne_of_lt (g37 ▸ V_b9.lt)
      have ne_b23_b37 : b23 ≠ b37 := Nat.ne_of_lt (g37 ▸ V_b23.lt)
      have V_b9 := V_b9.ext Ex37
      have V_b23 := V_b23.ext Ex37
      have ge_b37 : n0 ≤ b37 := g37 ▸ sz23
      have sz37 : n0 ≤ h37.size := Nat.le_trans sz23 Ex37.1
      have F_b37_heads : Fld Z h37 b37 "com/example/hopwise/hopwise/paths/ArcChanges" "heads" "[I" .null := D37 (Or.inr (Wd hw 16 rfl)) (ty := (.array .int)) (by decide)
      have F_b37_starts : Fld Z h37 b37 "com/example/hopwise/hopwise/paths/ArcChanges" "starts" "[I" .null := D37 (Or.inr (Wd hw 18 rfl)) (ty := (.array .int)) (by decide)
      have F_b37_arcs : Fld Z h37 b37 "com/example/hopwise/hopwise/paths/ArcChanges" "arcs" "[I" .null := D37 (Or.inr (Wd hw 20 rfl)) (ty := (.array .int)) (by decide)
      have F_b37_shortened : Fld Z h37 b37 "com/example/hopwise/hopwise/paths/ArcChanges" "shortened" "[I" .null := D37 (Or.inr (Wd hw 22 rfl)) (ty := (.array .int)) (by decide)
      have F_b37_lengthsBefore : Fld Z h37 b37 "com/example/hopwise/hopwise/paths/ArcChanges" "lengthsBefore" "[I" .null := D37 (Or.inr (Wd hw 24 rfl)) (ty := (.array .int)) (by decide)
      refine Own.dup X37 hx (pc := 303) (hb hby at_303) rfl ?_
      refine Own.iconst X37 hx (pc := 304) (0 : Int32) (hb hby at_304) (by decide) ?_
      refine Own.newarr X37 hx hZ (pc := 305) (aty := .int) (Wd hw 0 rfl) e37 (hb hby at_305) (by decide) 0 0 (by decide) (by decide) (by decide) (by decide) (by decide) ?_
      intro T38 h38 b38 g38 X38 e38 Ex38 V_b38
      have ne_b9_b38 : b9 ≠ b38 := Nat.ne_of_lt (g38 ▸ V_b9.lt)
      have ne_b23_b38 : b23 ≠ b38 := Nat.ne_of_lt (g38 ▸ V_b23.lt)
      have ne_b37_b38 : b37 ≠ b38 := Nat.ne_of_lt (g38 ▸ E_b37.lt)
      have V_b9 := V_b9.ext Ex38
      have V_b23 := V_b23.ext Ex38
      have E_b37 := Exa.ext Ex38 E_b37
      have F_b37_heads := Fld.ext Ex38 F_b37_heads
      have F_b37_starts := Fld.ext Ex38 F_b37_starts
      have F_b37_arcs := Fld.ext Ex38 F_b37_arcs
      have F_b37_shortened := Fld.ext Ex38 F_b37_shortened
      have F_b37_lengthsBefore := Fld.ext Ex38 F_b37_lengthsBefore
      have ge_b38 : n0 ≤ b38 := g38 ▸ sz37
      have sz38 : n0 ≤ h38.size := Nat.le_trans sz37 Ex38.1
      replace V_b38 : Own.VArr Z h38 b38 .int ([] : List Value) := V_b38
      refine Own.aload X38 hx (pc := 307) (hb hby at_307) rfl rfl ?_
      refine Own.bipush X38 hx (pc := 309) (8 : Int32) (hb hby at_309) (by decide) ?_
      refine Own.newarr X38 hx hZ (pc := 311) (aty := .int) (Wd hw 0 rfl) e38 (hb hby at_311) (by decide) 8 8 (by decide) (by decide) (by decide) (by decide) (by decide) ?_
      intro T39 h39 b39 g39 X39 e39 Ex39 V_b39
      have ne_b9_b39 : b9 ≠ b39 := Nat.ne_of_lt (g39 ▸ V_b9.lt)
      have ne_b23_b39 : b23 ≠ b39 := Nat.ne_of_lt (g39 ▸ V_b23.lt)
      have ne_b37_b39 : b37 ≠ b39 := Nat.ne_of_lt (g39 ▸ E_b37.lt)
      have ne_b38_b39 : b38 ≠ b39 := Nat.ne_of_lt (g39 ▸ V_b38.lt)
      have V_b9 := V_b9.ext Ex39
      have V_b23 := V_b23.ext Ex39
      have E_b37 := Exa.ext Ex39 E_b37
      have F_b37_heads := Fld.ext Ex39 F_b37_heads
      have F_b37_starts := Fld.ext Ex39 F_b37_starts
      have F_b37_arcs := Fld.ext Ex39 F_b37_arcs
      have F_b37_shortened := Fld.ext Ex39 F_b37_shortened
      have F_b37_lengthsBefore := Fld.ext Ex39 F_b37_lengthsBefore
      have V_b38 := V_b38.ext Ex39
      have ge_b39 : n0 ≤ b39 := g39 ▸ sz38
      have sz39 : n0 ≤ h39.size := Nat.le_trans sz38 Ex39.1
      replace V_b39 : Own.VArr Z h39 b39 .int [(.int (0 : Int32)), (.int (0 : Int32)), (.int (0 : Int32)), (.int (0 : Int32)), (.int (0 : Int32)), (.int (0 : Int32)), (.int (0 : Int32)), (.int (0 : Int32))] := V_b39
      refine Own.aload X39 hx (pc := 313) (hb hby at_313) rfl rfl ?_
      refine Own.iconst X39 hx (pc := 315) (4 : Int32) (hb hby at_315) (by decide) ?_
      refine Own.newarr X39 hx hZ (pc := 316) (aty := .int) (Wd hw 0 rfl) e39 (hb hby at_316) (by decide) 4 4 (by decide) (by decide) (by decide) (by decide) (by decide) ?_
      intro T40 h40 b40 g40 X40 e40 Ex40 V_b40
      have ne_b9_b40 : b9 ≠ b40 := Nat.ne_of_lt (g40 ▸ V_b9.lt)
      have ne_b23_b40 : b23 ≠ b40 := Nat.ne_of_lt (g40 ▸ V_b23.lt)
      have ne_b37_b40 : b37 ≠ b40 := Nat.ne_of_lt (g40 ▸ E_b37.lt)
      have ne_b38_b40 : b38 ≠ b40 := Nat.ne_of_lt (g40 ▸ V_b38.lt)
      have ne_b39_b40 : b39 ≠ b40 := Nat.ne_of_lt (g40 ▸ V_b39.lt)
      have V_b9 := V_b9.ext Ex40
      have V_b23 := V_b23.ext Ex40
      have E_b37 := Exa.ext Ex40 E_b37
      have F_b37_heads := Fld.ext Ex40 F_b37_heads
      have F_b37_starts := Fld.ext Ex40 F_b37_starts
      have F_b37_arcs := Fld.ext Ex40 F_b37_arcs
      have F_b37_shortened := Fld.ext Ex40 F_b37_shortened
      have F_b37_lengthsBefore := Fld.ext Ex40 F_b37_lengthsBefore
      have V_b38 := V_b38.ext Ex40
      have V_b39 := V_b39.ext Ex40
      have ge_b40 : n0 ≤ b40 := g40 ▸ sz39
      have sz40 : n0 ≤ h40.size := Nat.le_trans sz39 Ex40.1
      replace V_b40 : Own.VArr Z h40 b40 .int [(.int (0 : Int32)), (.int (0 : Int32)), (.int (0 : Int32)), (.int (0 : Int32))] := V_b40
      refine Own.callSpecial X40 hx hZ (pc := 318) (y := (⟨"com/example/hopwise/hopwise/paths/ArcChanges", "<init>", "([I[I[I[I[I)V"⟩ : MethodName)) rfl hown (Wd hw 4 rfl) (Wd hw 5 rfl) (Wd hw 3 rfl) (Wd hw 6 rfl) (by decide) 1 b37 [(.ref b38), (.ref b9), (.ref b39), (.ref b23), (.ref b40)] [(.ref b37)] (rm1 l Z a0 hw b37 b38 b9 b39 b23 b40 h40 n0 sz40 E_b37 F_b37_heads F_b37_starts F_b37_arcs F_b37_shortened F_b37_lengthsBefore ge_b37) (by decide) (by decide) e40 (by rw [hml]; rfl) pd4 rfl rfl (Nat.le_of_eq rfl) (hb hby at_318) (by decide) (by decide) ?_
      intro T41 L41 v41 X41 hQ41
      obtain ⟨rfl, Nq41, K41, F_b37_starts', F_b37_shortened'⟩ := hQ41
      have e41 : T41.heap = T41.heap := rfl
      have V_b9 := V_b9.keep K41 (ninS ne_b9_b37 nin0)
      have V_b23 := V_b23.keep K41 (ninS ne_b23_b37 nin0)
      have E_b37 := E_b37.keep K41
      have V_b38 := V_b38.keep K41 (ninS (Ne.symm ne_b37_b38) nin0)
      have V_b39 := V_b39.keep K41 (ninS (Ne.symm ne_b37_b39) nin0)
      have V_b40 := V_b40.keep K41 (ninS (Ne.symm ne_b37_b40) nin0)
      have sz41 : n0 ≤ T41.heap.size := Nat.le_trans sz40 K41.1
      have F_b37_starts := F_b37_starts'
      have F_b37_shortened := F_b37_shortened'
      have N41 := Fr.app N17 Nq41
      show Own.Go p e below _ (T41.setTop (mkF m 321 #[.val (.int a), .val (.int b), .val (.int c0), .val (.int s1), .val (.int s2), .val (.int s3), .val (.int s4), .val (.int s5), .val (.int s6), .val (.int s7), .val (.int s8), .val (.ref b9), .val (.int (0 : Int32)), .val (.int p19), .val (.int p20), .val (.int p21), .val (.int p22), .val (.ref b23), .val (.int nd36), .unset, .unset, .unset] [(.ref b37)]))
      refine Own.astore X41 hx (pc := 321) #[.val (.int a), .val (.int b), .val (.int c0), .val (.int s1), .val (.int s2), .val (.int s3), .val (.int s4), .val (.int s5), .val (.int s6), .val (.int s7), .val (.int s8), .val (.ref b9), .val (.int (0 : Int32)), .val (.int p19), .val (.int p20), .val (.int p21), .val (.int p22), .val (.ref b23), .val (.int nd36), .val (.ref b37), .unset, .unset] (hb hby at_321) rfl rfl ?_
      refine Own.aload X41 hx (pc := 323) (hb hby at_323) rfl rfl ?_
      refine Own.iload X41 hx (pc := 325) (hb hby at_325) rfl ?_
      refine Own.callVirtual X41 hx hZ (pc := 327) (y := (⟨"com/example/hopwise/hopwise/paths/ArcChanges", "firstShortenedOutOf", "(I)I"⟩ : MethodName)) (z := (⟨"com/example/hopwise/hopwise/paths/ArcChanges", "firstShortenedOutOf", "(I)I"⟩ : MethodName)) hown (Wd hw 25 rfl) (Wd hw 26 rfl) (Wd hw 28 rfl) (Wd hw 27 rfl) (Wd hw 3 rfl) (Wd hw 29 rfl) (Wd hw 28 rfl) (by decide) 0 b37 [(.int nd36)] [] E_b37 (rm4_0 l Z a0 hw b37 nd36 b9 b23 ([(.int s1), (.int s2), (.int s3), (.int s4), (.int s5), (.int s6), (.int s7), (.int s8)]) T41.heap n0 sz41 F_b37_starts F_b37_shortened V_b9 V_b23) (by decide) (by decide) e41 (by rw [hml]; rfl) pd5 rfl rfl (Nat.le_of_eq rfl) (hb hby at_327) (by decide) (by decide) ?_
      intro T42 L42 v42 X42 hQ42
      obtain ⟨rfl, Nq42, e42⟩ := hQ42
      have N42 := Fr.app N41 Nq42
      show Own.Go p e below _ (T42.setTop (mkF m 330 #[.val (.int a), .val (.int b), .val (.int c0), .val (.int s1), .val (.int s2), .val (.int s3), .val (.int s4), .val (.int s5), .val (.int s6), .val (.int s7), .val (.int s8), .val (.ref b9), .val (.int (0 : Int32)), .val (.int p19), .val (.int p20), .val (.int p21), .val (.int p22), .val (.ref b23), .val (.int nd36), .val (.ref b37), .unset, .unset] [(.int (0 : Int32))]))
      refine Own.istore X42 hx (pc := 330) #[.val (.int a), .val (.int b), .val (.int c0), .val (.int s1), .val (.int s2), .val (.int s3), .val (.int s4), .val (.int s5), .val (.int s6), .val (.int s7), .val (.int s8), .val (.ref b9), .val (.int (0 : Int32)), .val (.int p19), .val (.int p20), .val (.int p21), .val (.int p22), .val (.ref b23), .val (.int nd36), .val (.ref b37), .val (.int (0 : Int32)), .unset] (hb hby at_330) rfl ?_
      refine Own.iload X42 hx (pc := 332) (hb hby at_332) rfl ?_
      refine Own.iconst X42 hx (pc := 334) (0 : Int32) (hb hby at_334) (by decide) ?_
      refine Own.aload X42 hx (pc := 335) (hb hby at_335) rfl rfl ?_
      refine Own.iload X42 hx (pc := 337) (hb hby at_337) rfl ?_
      refine Own.iaload X42 hx hZ (pc := 339) e42 V_b9 (v := (.int (if p19.toInt = 0 then s1 else s2))) p19.toNatClampNeg (own_ge hp0 (by decide)) rfl (own_pick (K := 0) hp0 rfl rfl) (hb hby at_339) ?_
      refine Own.iload X42 hx (pc := 340) (hb hby at_340) rfl ?_
      refine Own.callStatic X42 hx hZ (pc := 342) (y := (⟨"com/example/hopwise/hopwise/paths/ArcChangesFirstShortenedOutOfPinLaw", "below", "(IIII)I"⟩ : MethodName)) hown (Wd hw 30 rfl) (Wd hw 31 rfl) (Wd hw 32 rfl) (Wd hw 33 rfl) (by decide) 0 [(.int (0 : Int32)), (.int (0 : Int32)), (.int (if p19.toInt = 0 then s1 else s2)), (.int nd36)] [] (rm5 l Z a0 hw (0 : Int32) (0 : Int32) (if p19.toInt = 0 then s1 else s2) nd36 T41.heap n0 sz41 ) (by decide) (by decide) e42 (by rw [hml]; rfl) pd6 rfl rfl (Nat.le_of_eq rfl) (hb hby at_342) (by decide) (by decide) ?_
      intro T43 L43 v43 X43 hQ43
      obtain ⟨rfl, Nq43, e43⟩ := hQ43
      have N43 := Fr.app N42 Nq43
      show Own.Go p e below _ (T43.setTop (mkF m 345 #[.val (.int a), .val (.int b), .val (.int c0), .val (.int s1), .val (.int s2), .val (.int s3), .val (.int s4), .val (.int s5), .val (.int s6), .val (.int s7), .val (.int s8), .val (.ref b9), .val (.int (0 : Int32)), .val (.int p19), .val (.int p20), .val (.int p21), .val (.int p22), .val (.ref b23), .val (.int nd36), .val (.ref b37), .val (.int (0 : Int32)), .unset] [(.int (if ((0 : Int32) < (0 : Int32) ∧ (if p19.toInt = 0 then s1 else s2) < nd36) then (1 : Int32) else 0))]))
      refine Own.iload X43 hx (pc := 345) (hb hby at_345) rfl ?_
      refine Own.iconst X43 hx (pc := 347) (1 : Int32) (hb hby at_347) (by decide) ?_
      refine Own.aload X43 hx (pc := 348) (hb hby at_348) rfl rfl ?_
      refine Own.iload X43 hx (pc := 350) (hb hby at_350) rfl ?_
      refine Own.iaload X43 hx hZ (pc := 352) e43 V_b9 (v := (.int (if p20.toInt = 2 then s3 else s4))) p20.toNatClampNeg (own_ge hp1 (by decide)) rfl (own_pick (K := 2) hp1 rfl rfl) (hb hby at_352) ?_
      refine Own.iload X43 hx (pc := 353) (hb hby at_353) rfl ?_
      refine Own.callStatic X43 hx hZ (pc := 355) (y := (⟨"com/example/hopwise/hopwise/paths/ArcChangesFirstShortenedOutOfPinLaw", "below", "(IIII)I"⟩ : MethodName)) hown (Wd hw 30 rfl) (Wd hw 31 rfl) (Wd hw 32 rfl) (Wd hw 33 rfl) (by decide) 1 [(.int (0 : Int32)), (.int (1 : Int32)), (.int (if p20.toInt = 2 then s3 else s4)), (.int nd36)] [(.int (if ((0 : Int32) < (0 : Int32) ∧ (if p19.toInt = 0 then s1 else s2) < nd36) then (1 : Int32) else 0))] (rm5 l Z a0 hw (0 : Int32) (1 : Int32) (if p20.toInt = 2 then s3 else s4) nd36 T41.heap n0 sz41 ) (by decide) (by decide) e43 (by rw [hml]; rfl) pd6 rfl rfl (Nat.le_of_eq rfl) (hb hby at_355) (by decide) (by decide) ?_
      intro T44 L44 v44 X44 hQ44
      obtain ⟨rfl, Nq44, e44⟩ := hQ44
      have N44 := Fr.app N43 Nq44
      show Own.Go p e below _ (T44.setTop (mkF m 358 #[.val (.int a), .val (.int b), .val (.int c0), .val (.int s1), .val (.int s2), .val (.int s3), .val (.int s4), .val (.int s5), .val (.int s6), .val (.int s7), .val (.int s8), .val (.ref b9), .val (.int (0 : Int32)), .val (.int p19), .val (.int p20), .val (.int p21), .val (.int p22), .val (.ref b23), .val (.int nd36), .val (.ref b37), .val (.int (0 : Int32)), .unset] [(.int (if ((1 : Int32) < (0 : Int32) ∧ (if p20.toInt = 2 then s3 else s4) < nd36) then (1 : Int32) else 0)), (.int (if ((0 : Int32) < (0 : Int32) ∧ (if p19.toInt = 0 then s1 else s2) < nd36) then (1 : Int32) else 0))]))
      refine Own.iadd X44 hx (pc := 358) (hb hby at_358) ?_
      refine Own.iload X44 hx (pc := 359) (hb hby at_359) rfl ?_
      refine Own.iconst X44 hx (pc := 361) (2 : Int32) (hb hby at_361) (by decide) ?_
      refine Own.aload X44 hx (pc := 362) (hb hby at_362) rfl rfl ?_
      refine Own.iload X44 hx (pc := 364) (hb hby at_364) rfl ?_
      refine Own.iaload X44 hx hZ (pc := 366) e44 V_b9 (v := (.int (if p21.toInt = 4 then s5 else s6))) p21.toNatClampNeg (own_ge hp2 (by decide)) rfl (own_pick (K := 4) hp2 rfl rfl) (hb hby at_366) ?_
      refine Own.iload X44 hx (pc := 367) (hb hby at_367) rfl ?_
      refine Own.callStatic X44 hx hZ (pc := 369) (y := (⟨"com/example/hopwise/hopwise/paths/ArcChangesFirstShortenedOutOfPinLaw", "below", "(IIII)I"⟩ : MethodName)) hown (Wd hw 30 rfl) (Wd hw 31 rfl) (Wd hw 32 rfl) (Wd hw 33 rfl) (by decide) 1 [(.int (0 : Int32)), (.int (2 : Int32)), (.int (if p21.toInt = 4 then s5 else s6)), (.int nd36)] [(.int ((if ((0 : Int32) < (0 : Int32) ∧ (if p19.toInt = 0 then s1 else s2) < nd36) then (1 : Int32) else 0) + (if ((1 : Int32) < (0 : Int32) ∧ (if p20.toInt = 2 then s3 else s4) < nd36) then (1 : Int32) else 0)))] (rm5 l Z a0 hw (0 : Int32) (2 : Int32) (if p21.toInt = 4 then s5 else s6) nd36 T41.heap n0 sz41 ) (by decide) (by decide) e44 (by rw [hml]; rfl) pd6 rfl rfl (Nat.le_of_eq rfl) (hb hby at_369) (by decide) (by decide) ?_
      intro T45 L45 v45 X45 hQ45
      obtain ⟨rfl, Nq45, e45⟩ := hQ45
      have N45 := Fr.app N44 Nq45
      show Own.Go p e below _ (T45.setTop (mkF m 372 #[.val (.int a), .val (.int b), .val (.int c0), .val (.int s1), .val (.int s2), .val (.int s3), .val (.int s4), .val (.int s5), .val (.int s6), .val (.int s7), .val (.int s8), .val (.ref b9), .val (.int (0 : Int32)), .val (.int p19), .val (.int p20), .val (.int p21), .val (.int p22), .val (.ref b23), .val (.int nd36), .val (.ref b37), .val (.int (0 : Int32)), .unset] [(.int (if ((2 : Int32) < (0 : Int32) ∧ (if p21.toInt = 4 then s5 else s6) < nd36) then (1 : Int32) else 0)), (.int ((if ((0 : Int32) < (0 : Int32) ∧ (if p19.toInt = 0 then s1 else s2) < nd36) then (1 : Int32) else 0) + (if ((1 : Int32) < (0 : Int32) ∧ (if p20.toInt = 2 then s3 else s4) < nd36) then (1 : Int32) else 0)))]))
      refine Own.iadd X45 hx (pc := 372) (hb hby at_372) ?_
      refine Own.iload X45 hx (pc := 373) (hb hby at_373) rfl ?_
      refine Own.iconst X45 hx (pc := 375) (3 : Int32) (hb hby at_375) (by decide) ?_
      refine Own.aload X45 hx (pc := 376) (hb hby at_376) rfl rfl ?_
      refine Own.iload X45 hx (pc := 378) (hb hby at_378) rfl ?_
      refine Own.iaload X45 hx hZ (pc := 380) e45 V_b9 (v := (.int (if p22.toInt = 6 then s7 else s8))) p22.toNatClampNeg (own_ge hp3 (by decide)) rfl (own_pick (K := 6) hp3 rfl rfl) (hb hby at_380) ?_
      refine Own.iload X45 hx (pc := 381) (hb hby at_381) rfl ?_
      refine Own.callStatic X45 hx hZ (pc := 383) (y := (⟨"com/example/hopwise/hopwise/paths/ArcChangesFirstShortenedOutOfPinLaw", "below", "(IIII)I"⟩ : MethodName)) hown (Wd hw 30 rfl) (Wd hw 31 rfl) (Wd hw 32 rfl) (Wd hw 33 rfl) (by decide) 1 [(.int (0 : Int32)), (.int (3 : Int32)), (.int (if p22.toInt = 6 then s7 else s8)), (.int nd36)] [(.int (((if ((0 : Int32) < (0 : Int32) ∧ (if p19.toInt = 0 then s1 else s2) < nd36) then (1 : Int32) else 0) + (if ((1 : Int32) < (0 : Int32) ∧ (if p20.toInt = 2 then s3 else s4) < nd36) then (1 : Int32) else 0)) + (if ((2 : Int32) < (0 : Int32) ∧ (if p21.toInt = 4 then s5 else s6) < nd36) then (1 : Int32) else 0)))] (rm5 l Z a0 hw (0 : Int32) (3 : Int32) (if p22.toInt = 6 then s7 else s8) nd36 T41.heap n0 sz41 ) (by decide) (by decide) e45 (by rw [hml]; rfl) pd6 rfl rfl (Nat.le_of_eq rfl) (hb hby at_383) (by decide) (by decide) ?_
      intro T46 L46 v46 X46 hQ46
      obtain ⟨rfl, Nq46, e46⟩ := hQ46
      have N46 := Fr.app N45 Nq46
      show Own.Go p e below _ (T46.setTop (mkF m 386 #[.val (.int a), .val (.int b), .val (.int c0), .val (.int s1), .val (.int s2), .val (.int s3), .val (.int s4), .val (.int s5), .val (.int s6), .val (.int s7), .val (.int s8), .val (.ref b9), .val (.int (0 : Int32)), .val (.int p19), .val (.int p20), .val (.int p21), .val (.int p22), .val (.ref b23), .val (.int nd36), .val (.ref b37), .val (.int (0 : Int32)), .unset] [(.int (if ((3 : Int32) < (0 : Int32) ∧ (if p22.toInt = 6 then s7 else s8) < nd36) then (1 : Int32) else 0)), (.int (((if ((0 : Int32) < (0 : Int32) ∧ (if p19.toInt = 0 then s1 else s2) < nd36) then (1 : Int32) else 0) + (if ((1 : Int32) < (0 : Int32) ∧ (if p20.toInt = 2 then s3 else s4) < nd36) then (1 : Int32) else 0)) + (if ((2 : Int32) < (0 : Int32) ∧ (if p21.toInt = 4 then s5 else s6) < nd36) then (1 : Int32) else 0)))]))
      refine Own.iadd X46 hx (pc := 386) (hb hby at_386) ?_
      refine Own.istore X46 hx (pc := 387) #[.val (.int a), .val (.int b), .val (.int c0), .val (.int s1), .val (.int s2), .val (.int s3), .val (.int s4), .val (.int s5), .val (.int s6), .val (.int s7), .val (.int s8), .val (.ref b9), .val (.int (0 : Int32)), .val (.int p19), .val (.int p20), .val (.int p21), .val (.int p22), .val (.ref b23), .val (.int nd36), .val (.ref b37), .val (.int (0 : Int32)), .val (.int ((((if ((0 : Int32) < (0 : Int32) ∧ (if p19.toInt = 0 then s1 else s2) < nd36) then (1 : Int32) else 0) + (if ((1 : Int32) < (0 : Int32) ∧ (if p20.toInt = 2 then s3 else s4) < nd36) then (1 : Int32) else 0)) + (if ((2 : Int32) < (0 : Int32) ∧ (if p21.toInt = 4 then s5 else s6) < nd36) then (1 : Int32) else 0)) + (if ((3 : Int32) < (0 : Int32) ∧ (if p22.toInt = 6 then s7 else s8) < nd36) then (1 : Int32) else 0)))] (hb hby at_387) rfl ?_
      refine Own.iload X46 hx (pc := 389) (hb hby at_389) rfl ?_
      refine Own.iload X46 hx (pc := 391) (hb hby at_391) rfl ?_
      refine Own.icmpNo X46 hx (pc := 393) (hb hby at_393) (XT.ii_ne_f (by simp)) ?_
      refine Own.iconst X46 hx (pc := 396) (1 : Int32) (hb hby at_396) (by decide) ?_
      refine Own.goto X46 hx (pc := 397) 401 (hb hby at_397) (by decide) (by decide) ?_
      exact Own.ireturn X46 hx hk hret (by simp) rfl (hb hby at_401) e46 ⟨rfl, N46⟩ (by decide) (by decide)
  · refine Own.iload X17 hx (pc := 170) (hb hby at_170) rfl ?_
    refine Own.ifYes X17 hx (pc := 172) 183 (hb hby at_172) (by decide) (by decide) (by decide) ?_
    refine Own.iload X17 hx (pc := 183) (hb hby at_183) rfl ?_
    refine Own.iconst X17 hx (pc := 185) (1 : Int32) (hb hby at_185) (by decide) ?_
    refine Own.icmpNo X17 hx (pc := 186) (hb hby at_186) (by decide) ?_
    refine Own.iconst X17 hx (pc := 189) (1 : Int32) (hb hby at_189) (by decide) ?_
    refine Own.newarr X17 hx hZ (pc := 190) (aty := .int) (Wd hw 0 rfl) e17 (hb hby at_190) (by decide) 1 1 (by decide) (by decide) (by decide) (by decide) (by decide) ?_
    intro T47 h47 b47 g47 X47 e47 Ex47 V_b47
    have ne_b9_b47 : b9 ≠ b47 := Nat.ne_of_lt (g47 ▸ V_b9.lt)
    have V_b9 := V_b9.ext Ex47
    have ge_b47 : n0 ≤ b47 := g47 ▸ sz17
    have sz47 : n0 ≤ h47.size := Nat.le_trans sz17 Ex47.1
    replace V_b47 : Own.VArr Z h47 b47 .int [(.int (0 : Int32))] := V_b47
    refine Own.dup X47 hx (pc := 192) (hb hby at_192) rfl ?_
    refine Own.iconst X47 hx (pc := 193) (0 : Int32) (hb hby at_193) (by decide) ?_
    refine Own.iload X47 hx (pc := 194) (hb hby at_194) rfl ?_
    refine Own.iastore X47 hx hZ (pc := 196) e47 V_b47 0 (by decide) (by decide) (of_decide_eq_true rfl) N17 ge_b47 (hb hby at_196) ?_
    intro T48 h48 X48 e48 W48 N48 V_b47
    replace V_b47 : Own.VArr Z h48 b47 .int [(.int p19)] := V_b47
    have sz48 : n0 ≤ h48.size := Nat.le_trans sz47 (Nat.le_of_eq (Wr.size W48).symm)
    have V_b9 := V_b9.other W48 ne_b9_b47
    refine Own.astore X48 hx (pc := 197) #[.val (.int a), .val (.int b), .val (.int c0), .val (.int s1), .val (.int s2), .val (.int s3), .val (.int s4), .val (.int s5), .val (.int s6), .val (.int s7), .val (.int s8), .val (.ref b9), .val (.int (1 : Int32)), .val (.int p19), .val (.int p20), .val (.int p21), .val (.int p22), .val (.ref b47), .unset, .unset, .unset, .unset] (hb hby at_197) rfl rfl ?_
    refine Own.goto X48 hx (pc := 199) 280 (hb hby at_199) (by decide) (by decide) ?_
    refine Own.iloadN X48 hx (pc := 280) (hb hby at_280) rfl ?_
    refine Own.iconst X48 hx (pc := 281) (1 : Int32) (hb hby at_281) (by decide) ?_
    refine Own.iand X48 hx (pc := 282) (hb hby at_282) ?_
    by_cases c49 : (c0 &&& (1 : Int32)) = (0 : Int32)
    · refine Own.ifYes X48 hx (pc := 283) 292 (hb hby at_283) (XT.i0_eq_t c49) (by decide) (by decide) ?_
      refine Own.iloadN X48 hx (pc := 292) (hb hby at_292) rfl ?_
      refine Own.iconst X48 hx (pc := 293) (1 : Int32) (hb hby at_293) (by decide) ?_
      refine Own.iushr X48 hx (pc := 294) (hb hby at_294) ?_
      refine Own.bipush X48 hx (pc := 295) (31 : Int32) (hb hby at_295) (by decide) ?_
      refine Own.iand X48 hx (pc := 297) (hb hby at_297) ?_
      generalize qnd50 : ((XT.ushr c0 (1 : Int32)) &&& (31 : Int32)) = nd50
      refine Own.istore X48 hx (pc := 298) #[.val (.int a), .val (.int b), .val (.int c0), .val (.int s1), .val (.int s2), .val (.int s3), .val (.int s4), .val (.int s5), .val (.int s6), .val (.int s7), .val (.int s8), .val (.ref b9), .val (.int (1 : Int32)), .val (.int p19), .val (.int p20), .val (.int p21), .val (.int p22), .val (.ref b47), .val (.int nd50), .unset, .unset, .unset] (hb hby at_298) rfl ?_
      refine Own.newobj X48 hx hZ (pc := 300) hown (Wd hw 1 rfl) (Wd hw 2 rfl) (Wd hw 3 rfl) e48 (hb hby at_300) (by decide) (by decide) ?_
      intro T51 h51 b51 g51 X51 e51 Ex51 E_b51 D51
      have ne_b9_b51 : b9 ≠ b51 := Nat.ne_of_lt (g51 ▸ V_b9.lt)
      have ne_b47_b51 : b47 ≠ b51 := Nat.ne_of_lt (g51 ▸ V_b47.lt)
      have V_b9 := V_b9.ext Ex51
      have V_b47 := V_b47.ext Ex51
      have ge_b51 : n0 ≤ b51 := g51 ▸ sz48
      have sz51 : n0 ≤ h51.size := Nat.le_trans sz48 Ex51.1
      have F_b51_heads : Fld Z h51 b51 "com/example/hopwise/hopwise/paths/ArcChanges" "heads" "[I" .null := D51 (Or.inr (Wd hw 16 rfl)) (ty := (.array .int)) (by decide)
      have F_b51_starts : Fld Z h51 b51 "com/example/hopwise/hopwise/paths/ArcChanges" "starts" "[I" .null := D51 (Or.inr (Wd hw 18 rfl)) (ty := (.array .int)) (by decide)
      have F_b51_arcs : Fld Z h51 b51 "com/example/hopwise/hopwise/paths/ArcChanges" "arcs" "[I" .null := D51 (Or.inr (Wd hw 20 rfl)) (ty := (.array .int)) (by decide)
      have F_b51_shortened : Fld Z h51 b51 "com/example/hopwise/hopwise/paths/ArcChanges" "shortened" "[I" .null := D51 (Or.inr (Wd hw 22 rfl)) (ty := (.array .int)) (by decide)
      have F_b51_lengthsBefore : Fld Z h51 b51 "com/example/hopwise/hopwise/paths/ArcChanges" "lengthsBefore" "[I" .null := D51 (Or.inr (Wd hw 24 rfl)) (ty := (.array .int)) (by decide)
      refine Own.dup X51 hx (pc := 303) (hb hby at_303) rfl ?_
      refine Own.iconst X51 hx (pc := 304) (0 : Int32) (hb hby at_304) (by decide) ?_
      refine Own.newarr X51 hx hZ (pc := 305) (aty := .int) (Wd hw 0 rfl) e51 (hb hby at_305) (by decide) 0 0 (by decide) (by decide) (by decide) (by decide) (by decide) ?_
      intro T52 h52 b52 g52 X52 e52 Ex52 V_b52
      have ne_b9_b52 : b9 ≠ b52 := Nat.ne_of_lt (g52 ▸ V_b9.lt)
      have ne_b47_b52 : b47 ≠ b52 := Nat.ne_of_lt (g52 ▸ V_b47.lt)
      have ne_b51_b52 : b51 ≠ b52 := Nat.ne_of_lt (g52 ▸ E_b51.lt)
      have V_b9 := V_b9.ext Ex52
      have V_b47 := V_b47.ext Ex52
      have E_b51 := Exa.ext Ex52 E_b51
      have F_b51_heads := Fld.ext Ex52 F_b51_heads
      have F_b51_starts := Fld.ext Ex52 F_b51_starts
      have F_b51_arcs := Fld.ext Ex52 F_b51_arcs
      have F_b51_shortened := Fld.ext Ex52 F_b51_shortened
      have F_b51_lengthsBefore := Fld.ext Ex52 F_b51_lengthsBefore
      have ge_b52 : n0 ≤ b52 := g52 ▸ sz51
      have sz52 : n0 ≤ h52.size := Nat.le_trans sz51 Ex52.1
      replace V_b52 : Own.VArr Z h52 b52 .int ([] : List Value) := V_b52
      refine Own.aload X52 hx (pc := 307) (hb hby at_307) rfl rfl ?_
      refine Own.bipush X52 hx (pc := 309) (8 : Int32) (hb hby at_309) (by decide) ?_
      refine Own.newarr X52 hx hZ (pc := 311) (aty := .int) (Wd hw 0 rfl) e52 (hb hby at_311) (by decide) 8 8 (by decide) (by decide) (by decide) (by decide) (by decide) ?_
      intro T53 h53 b53 g53 X53 e53 Ex53 V_b53
      have ne_b9_b53 : b9 ≠ b53 := Nat.ne_of_lt (g53 ▸ V_b9.lt)
      have ne_b47_b53 : b47 ≠ b53 := Nat.ne_of_lt (g53 ▸ V_b47.lt)
      have ne_b51_b53 : b51 ≠ b53 := Nat.ne_of_lt (g53 ▸ E_b51.lt)
      have ne_b52_b53 : b52 ≠ b53 := Nat.ne_of_lt (g53 ▸ V_b52.lt)
      have V_b9 := V_b9.ext Ex53
      have V_b47 := V_b47.ext Ex53
      have E_b51 := Exa.ext Ex53 E_b51
      have F_b51_heads := Fld.ext Ex53 F_b51_heads
      have F_b51_starts := Fld.ext Ex53 F_b51_starts
      have F_b51_arcs := Fld.ext Ex53 F_b51_arcs
      have F_b51_shortened := Fld.ext Ex53 F_b51_shortened
      have F_b51_lengthsBefore := Fld.ext Ex53 F_b51_lengthsBefore
      have V_b52 := V_b52.ext Ex53
      have ge_b53 : n0 ≤ b53 := g53 ▸ sz52
      have sz53 : n0 ≤ h53.size := Nat.le_trans sz52 Ex53.1
      replace V_b53 : Own.VArr Z h53 b53 .int [(.int (0 : Int32)), (.int (0 : Int32)), (.int (0 : Int32)), (.int (0 : Int32)), (.int (0 : Int32)), (.int (0 : Int32)), (.int (0 : Int32)), (.int (0 : Int32))] := V_b53
      refine Own.aload X53 hx (pc := 313) (hb hby at_313) rfl rfl ?_
      refine Own.iconst X53 hx (pc := 315) (4 : Int32) (hb hby at_315) (by decide) ?_
      refine Own.newarr X53 hx hZ (pc := 316) (aty := .int) (Wd hw 0 rfl) e53 (hb hby at_316) (by decide) 4 4 (by decide) (by decide) (by decide) (by decide) (by decide) ?_
      intro T54 h54 b54 g54 X54 e54 Ex54 V_b54
      have ne_b9_b54 : b9 ≠ b54 := Nat.ne_of_lt (g54 ▸ V_b9.lt)
      have ne_b47_b54 : b47 ≠ b54 := Nat.ne_of_lt (g54 ▸ V_b47.lt)
      have ne_b51_b54 : b51 ≠ b54 := Nat.ne_of_lt (g54 ▸ E_b51.lt)
      have ne_b52_b54 : b52 ≠ b54 := Nat.ne_of_lt (g54 ▸ V_b52.lt)
      have ne_b53_b54 : b53 ≠ b54 := Nat.ne_of_lt (g54 ▸ V_b53.lt)
      have V_b9 := V_b9.ext Ex54
      have V_b47 := V_b47.ext Ex54
      have E_b51 := Exa.ext Ex54 E_b51
      have F_b51_heads := Fld.ext Ex54 F_b51_heads
      have F_b51_starts := Fld.ext Ex54 F_b51_starts
      have F_b51_arcs := Fld.ext Ex54 F_b51_arcs
      have F_b51_shortened := Fld.ext Ex54 F_b51_shortened
      have F_b51_lengthsBefore := Fld.ext Ex54 F_b51_lengthsBefore
      have V_b52 := V_b52.ext Ex54
      have V_b53 := V_b53.ext Ex54
      have ge_b54 : n0 ≤ b54 := g54 ▸ sz53
      have sz54 : n0 ≤ h54.size := Nat.le_trans sz53 Ex54.1
      replace V_b54 : Own.VArr Z h54 b54 .int [(.int (0 : Int32)), (.int (0 : Int32)), (.int (0 : Int32)), (.int (0 : Int32))] := V_b54
      refine Own.callSpecial X54 hx hZ (pc := 318) (y := (⟨"com/example/hopwise/hopwise/paths/ArcChanges", "<init>", "([I[I[I[I[I)V"⟩ : MethodName)) rfl hown (Wd hw 4 rfl) (Wd hw 5 rfl) (Wd hw 3 rfl) (Wd hw 6 rfl) (by decide) 1 b51 [(.ref b52), (.ref b9), (.ref b53), (.ref b47), (.ref b54)] [(.ref b51)] (rm1 l Z a0 hw b51 b52 b9 b53 b47 b54 h54 n0 sz54 E_b51 F_b51_heads F_b51_starts F_b51_arcs F_b51_shortened F_b51_lengthsBefore ge_b51) (by decide) (by decide) e54 (by rw [hml]; rfl) pd4 rfl rfl (Nat.le_of_eq rfl) (hb hby at_318) (by decide) (by decide) ?_
      intro T55 L55 v55 X55 hQ55
      obtain ⟨rfl, Nq55, K55, F_b51_starts', F_b51_shortened'⟩ := hQ55
      have e55 : T55.heap = T55.heap := rfl
      have V_b9 := V_b9.keep K55 (ninS ne_b9_b51 nin0)
      have V_b47 := V_b47.keep K55 (ninS ne_b47_b51 nin0)
      have E_b51 := E_b51.keep K55
      have V_b52 := V_b52.keep K55 (ninS (Ne.symm ne_b51_b52) nin0)
      have V_b53 := V_b53.keep K55 (ninS (Ne.symm ne_b51_b53) nin0)
      have V_b54 := V_b54.keep K55 (ninS (Ne.symm ne_b51_b54) nin0)
      have sz55 : n0 ≤ T55.heap.size := Nat.le_trans sz54 K55.1
      have F_b51_starts := F_b51_starts'
      have F_b51_shortened := F_b51_shortened'
      have N55 := Fr.app N48 Nq55
      show Own.Go p e below _ (T55.setTop (mkF m 321 #[.val (.int a), .val (.int b), .val (.int c0), .val (.int s1), .val (.int s2), .val (.int s3), .val (.int s4), .val (.int s5), .val (.int s6), .val (.int s7), .val (.int s8), .val (.ref b9), .val (.int (1 : Int32)), .val (.int p19), .val (.int p20), .val (.int p21), .val (.int p22), .val (.ref b47), .val (.int nd50), .unset, .unset, .unset] [(.ref b51)]))
      refine Own.astore X55 hx (pc := 321) #[.val (.int a), .val (.int b), .val (.int c0), .val (.int s1), .val (.int s2), .val (.int s3), .val (.int s4), .val (.int s5), .val (.int s6), .val (.int s7), .val (.int s8), .val (.ref b9), .val (.int (1 : Int32)), .val (.int p19), .val (.int p20), .val (.int p21), .val (.int p22), .val (.ref b47), .val (.int nd50), .val (.ref b51), .unset, .unset] (hb hby at_321) rfl rfl ?_
      refine Own.aload X55 hx (pc := 323) (hb hby at_323) rfl rfl ?_
      refine Own.iload X55 hx (pc := 325) (hb hby at_325) rfl ?_
      refine Own.callVirtual X55 hx hZ (pc := 327) (y := (⟨"com/example/hopwise/hopwise/paths/ArcChanges", "firstShortenedOutOf", "(I)I"⟩ : MethodName)) (z := (⟨"com/example/hopwise/hopwise/paths/ArcChanges", "firstShortenedOutOf", "(I)I"⟩ : MethodName)) hown (Wd hw 25 rfl) (Wd hw 26 rfl) (Wd hw 28 rfl) (Wd hw 27 rfl) (Wd hw 3 rfl) (Wd hw 29 rfl) (Wd hw 28 rfl) (by decide) 0 b51 [(.int nd50)] [] E_b51 (rm4_1 l Z a0 hw b51 nd50 b9 b47 ([(.int s1), (.int s2), (.int s3), (.int s4), (.int s5), (.int s6), (.int s7), (.int s8)]) p19 (if p19.toInt = 0 then s1 else s2) T55.heap n0 sz55 F_b51_starts F_b51_shortened V_b9 V_b47 (own_ge hp0 (by decide)) (own_pick (K := 0) hp0 rfl rfl)) (by decide) (by decide) e55 (by rw [hml]; rfl) pd5 rfl rfl (Nat.le_of_eq rfl) (hb hby at_327) (by decide) (by decide) ?_
      intro T56 L56 v56 X56 hQ56
      obtain ⟨rfl, Nq56, e56⟩ := hQ56
      have N56 := Fr.app N55 Nq56
      show Own.Go p e below _ (T56.setTop (mkF m 330 #[.val (.int a), .val (.int b), .val (.int c0), .val (.int s1), .val (.int s2), .val (.int s3), .val (.int s4), .val (.int s5), .val (.int s6), .val (.int s7), .val (.int s8), .val (.ref b9), .val (.int (1 : Int32)), .val (.int p19), .val (.int p20), .val (.int p21), .val (.int p22), .val (.ref b47), .val (.int nd50), .val (.ref b51), .unset, .unset] [(.int (if (if p19.toInt = 0 then s1 else s2) < nd50 then (1 : Int32) else 0))]))
      refine Own.istore X56 hx (pc := 330) #[.val (.int a), .val (.int b), .val (.int c0), .val (.int s1), .val (.int s2), .val (.int s3), .val (.int s4), .val (.int s5), .val (.int s6), .val (.int s7), .val (.int s8), .val (.ref b9), .val (.int (1 : Int32)), .val (.int p19), .val (.int p20), .val (.int p21), .val (.int p22), .val (.ref b47), .val (.int nd50), .val (.ref b51), .val (.int (if (if p19.toInt = 0 then s1 else s2) < nd50 then (1 : Int32) else 0)), .unset] (hb hby at_330) rfl ?_
      refine Own.iload X56 hx (pc := 332) (hb hby at_332) rfl ?_
      refine Own.iconst X56 hx (pc := 334) (0 : Int32) (hb hby at_334) (by decide) ?_
      refine Own.aload X56 hx (pc := 335) (hb hby at_335) rfl rfl ?_
      refine Own.iload X56 hx (pc := 337) (hb hby at_337) rfl ?_
      refine Own.iaload X56 hx hZ (pc := 339) e56 V_b9 (v := (.int (if p19.toInt = 0 then s1 else s2))) p19.toNatClampNeg (own_ge hp0 (by decide)) rfl (own_pick (K := 0) hp0 rfl rfl) (hb hby at_339) ?_
      refine Own.iload X56 hx (pc := 340) (hb hby at_340) rfl ?_
      refine Own.callStatic X56 hx hZ (pc := 342) (y := (⟨"com/example/hopwise/hopwise/paths/ArcChangesFirstShortenedOutOfPinLaw", "below", "(IIII)I"⟩ : MethodName)) hown (Wd hw 30 rfl) (Wd hw 31 rfl) (Wd hw 32 rfl) (Wd hw 33 rfl) (by decide) 0 [(.int (1 : Int32)), (.int (0 : Int32)), (.int (if p19.toInt = 0 then s1 else s2)), (.int nd50)] [] (rm5 l Z a0 hw (1 : Int32) (0 : Int32) (if p19.toInt = 0 then s1 else s2) nd50 T55.heap n0 sz55 ) (by decide) (by decide) e56 (by rw [hml]; rfl) pd6 rfl rfl (Nat.le_of_eq rfl) (hb hby at_342) (by decide) (by decide) ?_
      intro T57 L57 v57 X57 hQ57
      obtain ⟨rfl, Nq57, e57⟩ := hQ57
      have N57 := Fr.app N56 Nq57
      show Own.Go p e below _ (T57.setTop (mkF m 345 #[.val (.int a), .val (.int b), .val (.int c0), .val (.int s1), .val (.int s2), .val (.int s3), .val (.int s4), .val (.int s5), .val (.int s6), .val (.int s7), .val (.int s8), .val (.ref b9), .val (.int (1 : Int32)), .val (.int p19), .val (.int p20), .val (.int p21), .val (.int p22), .val (.ref b47), .val (.int nd50), .val (.ref b51), .val (.int (if (if p19.toInt = 0 then s1 else s2) < nd50 then (1 : Int32) else 0)), .unset] [(.int (if ((0 : Int32) < (1 : Int32) ∧ (if p19.toInt = 0 then s1 else s2) < nd50) then (1 : Int32) else 0))]))
      refine Own.iload X57 hx (pc := 345) (hb hby at_345) rfl ?_
      refine Own.iconst X57 hx (pc := 347) (1 : Int32) (hb hby at_347) (by decide) ?_
      refine Own.aload X57 hx (pc := 348) (hb hby at_348) rfl rfl ?_
      refine Own.iload X57 hx (pc := 350) (hb hby at_350) rfl ?_
      refine Own.iaload X57 hx hZ (pc := 352) e57 V_b9 (v := (.int (if p20.toInt = 2 then s3 else s4))) p20.toNatClampNeg (own_ge hp1 (by decide)) rfl (own_pick (K := 2) hp1 rfl rfl) (hb hby at_352) ?_
      refine Own.iload X57 hx (pc := 353) (hb hby at_353) rfl ?_
      refine Own.callStatic X57 hx hZ (pc := 355) (y := (⟨"com/example/hopwise/hopwise/paths/ArcChangesFirstShortenedOutOfPinLaw", "below", "(IIII)I"⟩ : MethodName)) hown (Wd hw 30 rfl) (Wd hw 31 rfl) (Wd hw 32 rfl) (Wd hw 33 rfl) (by decide) 1 [(.int (1 : Int32)), (.int (1 : Int32)), (.int (if p20.toInt = 2 then s3 else s4)), (.int nd50)] [(.int (if ((0 : Int32) < (1 : Int32) ∧ (if p19.toInt = 0 then s1 else s2) < nd50) then (1 : Int32) else 0))] (rm5 l Z a0 hw (1 : Int32) (1 : Int32) (if p20.toInt = 2 then s3 else s4) nd50 T55.heap n0 sz55 ) (by decide) (by decide) e57 (by rw [hml]; rfl) pd6 rfl rfl (Nat.le_of_eq rfl) (hb hby at_355) (by decide) (by decide) ?_
      intro T58 L58 v58 X58 hQ58
      obtain ⟨rfl, Nq58, e58⟩ := hQ58
      have N58 := Fr.app N57 Nq58
      show Own.Go p e below _ (T58.setTop (mkF m 358 #[.val (.int a), .val (.int b), .val (.int c0), .val (.int s1), .val (.int s2), .val (.int s3), .val (.int s4), .val (.int s5), .val (.int s6), .val (.int s7), .val (.int s8), .val (.ref b9), .val (.int (1 : Int32)), .val (.int p19), .val (.int p20), .val (.int p21), .val (.int p22), .val (.ref b47), .val (.int nd50), .val (.ref b51), .val (.int (if (if p19.toInt = 0 then s1 else s2) < nd50 then (1 : Int32) else 0)), .unset] [(.int (if ((1 : Int32) < (1 : Int32) ∧ (if p20.toInt = 2 then s3 else s4) < nd50) then (1 : Int32) else 0)), (.int (if ((0 : Int32) < (1 : Int32) ∧ (if p19.toInt = 0 then s1 else s2) < nd50) then (1 : Int32) else 0))]))
      refine Own.iadd X58 hx (pc := 358) (hb hby at_358) ?_
      refine Own.iload X58 hx (pc := 359) (hb hby at_359) rfl ?_
      refine Own.iconst X58 hx (pc := 361) (2 : Int32) (hb hby at_361) (by decide) ?_
      refine Own.aload X58 hx (pc := 362) (hb hby at_362) rfl rfl ?_
      refine Own.iload X58 hx (pc := 364) (hb hby at_364) rfl ?_
      refine Own.iaload X58 hx hZ (pc := 366) e58 V_b9 (v := (.int (if p21.toInt = 4 then s5 else s6))) p21.toNatClampNeg (own_ge hp2 (by decide)) rfl (own_pick (K := 4) hp2 rfl rfl) (hb hby at_366) ?_
      refine Own.iload X58 hx (pc := 367) (hb hby at_367) rfl ?_
      refine Own.callStatic X58 hx hZ (pc := 369) (y := (⟨"com/example/hopwise/hopwise/paths/ArcChangesFirstShortenedOutOfPinLaw", "below", "(IIII)I"⟩ : MethodName)) hown (Wd hw 30 rfl) (Wd hw 31 rfl) (Wd hw 32 rfl) (Wd hw 33 rfl) (by decide) 1 [(.int (1 : Int32)), (.int (2 : Int32)), (.int (if p21.toInt = 4 then s5 else s6)), (.int nd50)] [(.int ((if ((0 : Int32) < (1 : Int32) ∧ (if p19.toInt = 0 then s1 else s2) < nd50) then (1 : Int32) else 0) + (if ((1 : Int32) < (1 : Int32) ∧ (if p20.toInt = 2 then s3 else s4) < nd50) then (1 : Int32) else 0)))] (rm5 l Z a0 hw (1 : Int32) (2 : Int32) (if p21.toInt = 4 then s5 else s6) nd50 T55.heap n0 sz55 ) (by decide) (by decide) e58 (by rw [hml]; rfl) pd6 rfl rfl (Nat.le_of_eq rfl) (hb hby at_369) (by decide) (by decide) ?_
      intro T59 L59 v59 X59 hQ59
      obtain ⟨rfl, Nq59, e59⟩ := hQ59
      have N59 := Fr.app N58 Nq59
      show Own.Go p e below _ (T59.setTop (mkF m 372 #[.val (.int a), .val (.int b), .val (.int c0), .val (.int s1), .val (.int s2), .val (.int s3), .val (.int s4), .val (.int s5), .val (.int s6), .val (.int s7), .val (.int s8), .val (.ref b9), .val (.int (1 : Int32)), .val (.int p19), .val (.int p20), .val (.int p21), .val (.int p22), .val (.ref b47), .val (.int nd50), .val (.ref b51), .val (.int (if (if p19.toInt = 0 then s1 else s2) < nd50 then (1 : Int32) else 0)), .unset] [(.int (if ((2 : Int32) < (1 : Int32) ∧ (if p21.toInt = 4 then s5 else s6) < nd50) then (1 : Int32) else 0)), (.int ((if ((0 : Int32) < (1 : Int32) ∧ (if p19.toInt = 0 then s1 else s2) < nd50) then (1 : Int32) else 0) + (if ((1 : Int32) < (1 : Int32) ∧ (if p20.toInt = 2 then s3 else s4) < nd50) then (1 : Int32) else 0)))]))
      refine Own.iadd X59 hx (pc := 372) (hb hby at_372) ?_
      refine Own.iload X59 hx (pc := 373) (hb hby at_373) rfl ?_
      refine Own.iconst X59 hx (pc := 375) (3 : Int32) (hb hby at_375) (by decide) ?_
      refine Own.aload X59 hx (pc := 376) (hb hby at_376) rfl rfl ?_
      refine Own.iload X59 hx (pc := 378) (hb hby at_378) rfl ?_
      refine Own.iaload X59 hx hZ (pc := 380) e59 V_b9 (v := (.int (if p22.toInt = 6 then s7 else s8))) p22.toNatClampNeg (own_ge hp3 (by decide)) rfl (own_pick (K := 6) hp3 rfl rfl) (hb hby at_380) ?_
      refine Own.iload X59 hx (pc := 381) (hb hby at_381) rfl ?_
      refine Own.callStatic X59 hx hZ (pc := 383) (y := (⟨"com/example/hopwise/hopwise/paths/ArcChangesFirstShortenedOutOfPinLaw", "below", "(IIII)I"⟩ : MethodName)) hown (Wd hw 30 rfl) (Wd hw 31 rfl) (Wd hw 32 rfl) (Wd hw 33 rfl) (by decide) 1 [(.int (1 : Int32)), (.int (3 : Int32)), (.int (if p22.toInt = 6 then s7 else s8)), (.int nd50)] [(.int (((if ((0 : Int32) < (1 : Int32) ∧ (if p19.toInt = 0 then s1 else s2) < nd50) then (1 : Int32) else 0) + (if ((1 : Int32) < (1 : Int32) ∧ (if p20.toInt = 2 then s3 else s4) < nd50) then (1 : Int32) else 0)) + (if ((2 : Int32) < (1 : Int32) ∧ (if p21.toInt = 4 then s5 else s6) < nd50) then (1 : Int32) else 0)))] (rm5 l Z a0 hw (1 : Int32) (3 : Int32) (if p22.toInt = 6 then s7 else s8) nd50 T55.heap n0 sz55 ) (by decide) (by decide) e59 (by rw [hml]; rfl) pd6 rfl rfl (Nat.le_of_eq rfl) (hb hby at_383) (by decide) (by decide) ?_
      intro T60 L60 v60 X60 hQ60
      obtain ⟨rfl, Nq60, e60⟩ := hQ60
      have N60 := Fr.app N59 Nq60
      show Own.Go p e below _ (T60.setTop (mkF m 386 #[.val (.int a), .val (.int b), .val (.int c0), .val (.int s1), .val (.int s2), .val (.int s3), .val (.int s4), .val (.int s5), .val (.int s6), .val (.int s7), .val (.int s8), .val (.ref b9), .val (.int (1 : Int32)), .val (.int p19), .val (.int p20), .val (.int p21), .val (.int p22), .val (.ref b47), .val (.int nd50), .val (.ref b51), .val (.int (if (if p19.toInt = 0 then s1 else s2) < nd50 then (1 : Int32) else 0)), .unset] [(.int (if ((3 : Int32) < (1 : Int32) ∧ (if p22.toInt = 6 then s7 else s8) < nd50) then (1 : Int32) else 0)), (.int (((if ((0 : Int32) < (1 : Int32) ∧ (if p19.toInt = 0 then s1 else s2) < nd50) then (1 : Int32) else 0) + (if ((1 : Int32) < (1 : Int32) ∧ (if p20.toInt = 2 then s3 else s4) < nd50) then (1 : Int32) else 0)) + (if ((2 : Int32) < (1 : Int32) ∧ (if p21.toInt = 4 then s5 else s6) < nd50) then (1 : Int32) else 0)))]))
      refine Own.iadd X60 hx (pc := 386) (hb hby at_386) ?_
      refine Own.istore X60 hx (pc := 387) #[.val (.int a), .val (.int b), .val (.int c0), .val (.int s1), .val (.int s2), .val (.int s3), .val (.int s4), .val (.int s5), .val (.int s6), .val (.int s7), .val (.int s8), .val (.ref b9), .val (.int (1 : Int32)), .val (.int p19), .val (.int p20), .val (.int p21), .val (.int p22), .val (.ref b47), .val (.int nd50), .val (.ref b51), .val (.int (if (if p19.toInt = 0 then s1 else s2) < nd50 then (1 : Int32) else 0)), .val (.int ((((if ((0 : Int32) < (1 : Int32) ∧ (if p19.toInt = 0 then s1 else s2) < nd50) then (1 : Int32) else 0) + (if ((1 : Int32) < (1 : Int32) ∧ (if p20.toInt = 2 then s3 else s4) < nd50) then (1 : Int32) else 0)) + (if ((2 : Int32) < (1 : Int32) ∧ (if p21.toInt = 4 then s5 else s6) < nd50) then (1 : Int32) else 0)) + (if ((3 : Int32) < (1 : Int32) ∧ (if p22.toInt = 6 then s7 else s8) < nd50) then (1 : Int32) else 0)))] (hb hby at_387) rfl ?_
      refine Own.iload X60 hx (pc := 389) (hb hby at_389) rfl ?_
      refine Own.iload X60 hx (pc := 391) (hb hby at_391) rfl ?_
      refine Own.icmpNo X60 hx (pc := 393) (hb hby at_393) (XT.ii_ne_f (by simp)) ?_
      refine Own.iconst X60 hx (pc := 396) (1 : Int32) (hb hby at_396) (by decide) ?_
      refine Own.goto X60 hx (pc := 397) 401 (hb hby at_397) (by decide) (by decide) ?_
      exact Own.ireturn X60 hx hk hret (by simp) rfl (hb hby at_401) e60 ⟨rfl, N60⟩ (by decide) (by decide)
    · refine Own.ifNo X48 hx (pc := 283) (hb hby at_283) (XT.i0_eq_f c49) ?_
      refine Own.iloadN X48 hx (pc := 286) (hb hby at_286) rfl ?_
      refine Own.iconst X48 hx (pc := 287) (1 : Int32) (hb hby at_287) (by decide) ?_
      refine Own.ishr X48 hx (pc := 288) (hb hby at_288) ?_
      refine Own.goto X48 hx (pc := 289) 298 (hb hby at_289) (by decide) (by decide) ?_
      generalize qnd61 : (c0 >>> ((1 : Int32) &&& 31)) = nd61
      refine Own.istore X48 hx (pc := 298) #[.val (.int a), .val (.int b), .val (.int c0), .val (.int s1), .val (.int s2), .val (.int s3), .val (.int s4), .val (.int s5), .val (.int s6), .val (.int s7), .val (.int s8), .val (.ref b9), .val (.int (1 : Int32)), .val (.int p19), .val (.int p20), .val (.int p21), .val (.int p22), .val (.ref b47), .val (.int nd61), .unset, .unset, .unset] (hb hby at_298) rfl ?_
      refine Own.newobj X48 hx hZ (pc := 300) hown (Wd hw 1 rfl) (Wd hw 2 rfl) (Wd hw 3 rfl) e48 (hb hby at_300) (by decide) (by decide) ?_
      intro T62 h62 b62 g62 X62 e62 Ex62 E_b62 D62
      have ne_b9_b62 : b9 ≠ b62 := Nat.ne_of_lt (g62 ▸ V_b9.lt)
      have ne_b47_b62 : b47 ≠ b62 := Nat.ne_of_lt (g62 ▸ V_b47.lt)
      have V_b9 := V_b9.ext Ex62
      have V_b47 := V_b47.ext Ex62
      have ge_b62 : n0 ≤ b62 := g62 ▸ sz48
      have sz62 : n0 ≤ h62.size := Nat.le_trans sz48 Ex62.1
      have F_b62_heads : Fld Z h62 b62 "com/example/hopwise/hopwise/paths/ArcChanges" "heads" "[I" .null := D62 (Or.inr (Wd hw 16 rfl)) (ty := (.array .int)) (by decide)
      have F_b62_starts : Fld Z h62 b62 "com/example/hopwise/hopwise/paths/ArcChanges" "starts" "[I" .null := D62 (Or.inr (Wd hw 18 rfl)) (ty := (.array .int)) (by decide)
      have F_b62_arcs : Fld Z h62 b62 "com/example/hopwise/hopwise/paths/ArcChanges" "arcs" "[I" .null := D62 (Or.inr (Wd hw 20 rfl)) (ty := (.array .int)) (by decide)
      have F_b62_shortened : Fld Z h62 b62 "com/example/hopwise/hopwise/paths/ArcChanges" "shortened" "[I" .null := D62 (Or.inr (Wd hw 22 rfl)) (ty := (.array .int)) (by decide)
      have F_b62_lengthsBefore : Fld Z h62 b62 "com/example/hopwise/hopwise/paths/ArcChanges" "lengthsBefore" "[I" .null := D62 (Or.inr (Wd hw 24 rfl)) (ty := (.array .int)) (by decide)
      refine Own.dup X62 hx (pc := 303) (hb hby at_303) rfl ?_
      refine Own.iconst X62 hx (pc := 304) (0 : Int32) (hb hby at_304) (by decide) ?_
      refine Own.newarr X62 hx hZ (pc := 305) (aty := .int) (Wd hw 0 rfl) e62 (hb hby at_305) (by decide) 0 0 (by decide) (by decide) (by decide) (by decide) (by decide) ?_
      intro T63 h63 b63 g63 X63 e63 Ex63 V_b63
      have ne_b9_b63 : b9 ≠ b63 := Nat.ne_of_lt (g63 ▸ V_b9.lt)
      have ne_b47_b63 : b47 ≠ b63 := Nat.ne_of_lt (g63 ▸ V_b47.lt)
      have ne_b62_b63 : b62 ≠ b63 := Nat.ne_of_lt (g63 ▸ E_b62.lt)
      have V_b9 := V_b9.ext Ex63
      have V_b47 := V_b47.ext Ex63
      have E_b62 := Exa.ext Ex63 E_b62
      have F_b62_heads := Fld.ext Ex63 F_b62_heads
      have F_b62_starts := Fld.ext Ex63 F_b62_starts
      have F_b62_arcs := Fld.ext Ex63 F_b62_arcs
      have F_b62_shortened := Fld.ext Ex63 F_b62_shortened
      have F_b62_lengthsBefore := Fld.ext Ex63 F_b62_lengthsBefore
      have ge_b63 : n0 ≤ b63 := g63 ▸ sz62
      have sz63 : n0 ≤ h63.size := Nat.le_trans sz62 Ex63.1
      replace V_b63 : Own.VArr Z h63 b63 .int ([] : List Value) := V_b63
      refine Own.aload X63 hx (pc := 307) (hb hby at_307) rfl rfl ?_
      refine Own.bipush X63 hx (pc := 309) (8 : Int32) (hb hby at_309) (by decide) ?_
      refine Own.newarr X63 hx hZ (pc := 311) (aty := .int) (Wd hw 0 rfl) e63 (hb hby at_311) (by decide) 8 8 (by decide) (by decide) (by decide) (by decide) (by decide) ?_
      intro T64 h64 b64 g64 X64 e64 Ex64 V_b64
      have ne_b9_b64 : b9 ≠ b64 := Nat.ne_of_lt (g64 ▸ V_b9.lt)
      have ne_b47_b64 : b47 ≠ b64 := Nat.ne_of_lt (g64 ▸ V_b47.lt)
      have ne_b62_b64 : b62 ≠ b64 := Nat.ne_of_lt (g64 ▸ E_b62.lt)
      have ne_b63_b64 : b63 ≠ b64 := Nat.ne_of_lt (g64 ▸ V_b63.lt)
      have V_b9 := V_b9.ext Ex64
      have V_b47 := V_b47.ext Ex64
      have E_b62 := Exa.ext Ex64 E_b62
      have F_b62_heads := Fld.ext Ex64 F_b62_heads
      have F_b62_starts := Fld.ext Ex64 F_b62_starts
      have F_b62_arcs := Fld.ext Ex64 F_b62_arcs
      have F_b62_shortened := Fld.ext Ex64 F_b62_shortened
      have F_b62_lengthsBefore := Fld.ext Ex64 F_b62_lengthsBefore
      have V_b63 := V_b63.ext Ex64
      have ge_b64 : n0 ≤ b64 := g64 ▸ sz63
      have sz64 : n0 ≤ h64.size := Nat.le_trans sz63 Ex64.1
      replace V_b64 : Own.VArr Z h64 b64 .int [(.int (0 : Int32)), (.int (0 : Int32)), (.int (0 : Int32)), (.int (0 : Int32)), (.int (0 : Int32)), (.int (0 : Int32)), (.int (0 : Int32)), (.int (0 : Int32))] := V_b64
      refine Own.aload X64 hx (pc := 313) (hb hby at_313) rfl rfl ?_
      refine Own.iconst X64 hx (pc := 315) (4 : Int32) (hb hby at_315) (by decide) ?_
      refine Own.newarr X64 hx hZ (pc := 316) (aty := .int) (Wd hw 0 rfl) e64 (hb hby at_316) (by decide) 4 4 (by decide) (by decide) (by decide) (by decide) (by decide) ?_
      intro T65 h65 b65 g65 X65 e65 Ex65 V_b65
      have ne_b9_b65 : b9 ≠ b65 := Nat.ne_of_lt (g65 ▸ V_b9.lt)
      have ne_b47_b65 : b47 ≠ b65 := Nat.ne_of_lt (g65 ▸ V_b47.lt)
      have ne_b62_b65 : b62 ≠ b65 := Nat.ne_of_lt (g65 ▸ E_b62.lt)
      have ne_b63_b65 : b63 ≠ b65 := Nat.ne_of_lt (g65 ▸ V_b63.lt)
      have ne_b64_b65 : b64 ≠ b65 := Nat.ne_of_lt (g65 ▸ V_b64.lt)
      have V_b9 := V_b9.ext Ex65
      have V_b47 := V_b47.ext Ex65
      have E_b62 := Exa.ext Ex65 E_b62
      have F_b62_heads := Fld.ext Ex65 F_b62_heads
      have F_b62_starts := Fld.ext Ex65 F_b62_starts
      have F_b62_arcs := Fld.ext Ex65 F_b62_arcs
      have F_b62_shortened := Fld.ext Ex65 F_b62_shortened
      have F_b62_lengthsBefore := Fld.ext Ex65 F_b62_lengthsBefore
      have V_b63 := V_b63.ext Ex65
      have V_b64 := V_b64.ext Ex65
      have ge_b65 : n0 ≤ b65 := g65 ▸ sz64
      have sz65 : n0 ≤ h65.size := Nat.le_trans sz64 Ex65.1
      replace V_b65 : Own.VArr Z h65 b65 .int [(.int (0 : Int32)), (.int (0 : Int32)), (.int (0 : Int32)), (.int (0 : Int32))] := V_b65
      refine Own.callSpecial X65 hx hZ (pc := 318) (y := (⟨"com/example/hopwise/hopwise/paths/ArcChanges", "<init>", "([I[I[I[I[I)V"⟩ : MethodName)) rfl hown (Wd hw 4 rfl) (Wd hw 5 rfl) (Wd hw 3 rfl) (Wd hw 6 rfl) (by decide) 1 b62 [(.ref b63), (.ref b9), (.ref b64), (.ref b47), (.ref b65)] [(.ref b62)] (rm1 l Z a0 hw b62 b63 b9 b64 b47 b65 h65 n0 sz65 E_b62 F_b62_heads F_b62_starts F_b62_arcs F_b62_shortened F_b62_lengthsBefore ge_b62) (by decide) (by decide) e65 (by rw [hml]; rfl) pd4 rfl rfl (Nat.le_of_eq rfl) (hb hby at_318) (by decide) (by decide) ?_
      intro T66 L66 v66 X66 hQ66
      obtain ⟨rfl, Nq66, K66, F_b62_starts', F_b62_shortened'⟩ := hQ66
      have e66 : T66.heap = T66.heap := rfl
      have V_b9 := V_b9.keep K66 (ninS ne_b9_b62 nin0)
      have V_b47 := V_b47.keep K66 (ninS ne_b47_b62 nin0)
      have E_b62 := E_b62.keep K66
      have V_b63 := V_b63.keep K66 (ninS (Ne.symm ne_b62_b63) nin0)
      have V_b64 := V_b64.keep K66 (ninS (Ne.symm ne_b62_b64) nin0)
      have V_b65 := V_b65.keep K66 (ninS (Ne.symm ne_b62_b65) nin0)
      have sz66 : n0 ≤ T66.heap.size := Nat.le_trans sz65 K66.1
      have F_b62_starts := F_b62_starts'
      have F_b62_shortened := F_b62_shortened'
      have N66 := Fr.app N48 Nq66
      show Own.Go p e below _ (T66.setTop (mkF m 321 #[.val (.int a), .val (.int b), .val (.int c0), .val (.int s1), .val (.int s2), .val (.int s3), .val (.int s4), .val (.int s5), .val (.int s6), .val (.int s7), .val (.int s8), .val (.ref b9), .val (.int (1 : Int32)), .val (.int p19), .val (.int p20), .val (.int p21), .val (.int p22), .val (.ref b47), .val (.int nd61), .unset, .unset, .unset] [(.ref b62)]))
      refine Own.astore X66 hx (pc := 321) #[.val (.int a), .val (.int b), .val (.int c0), .val (.int s1), .val (.int s2), .val (.int s3), .val (.int s4), .val (.int s5), .val (.int s6), .val (.int s7), .val (.int s8), .val (.ref b9), .val (.int (1 : Int32)), .val (.int p19), .val (.int p20), .val (.int p21), .val (.int p22), .val (.ref b47), .val (.int nd61), .val (.ref b62), .unset, .unset] (hb hby at_321) rfl rfl ?_
      refine Own.aload X66 hx (pc := 323) (hb hby at_323) rfl rfl ?_
      refine Own.iload X66 hx (pc := 325) (hb hby at_325) rfl ?_
      refine Own.callVirtual X66 hx hZ (pc := 327) (y := (⟨"com/example/hopwise/hopwise/paths/ArcChanges", "firstShortenedOutOf", "(I)I"⟩ : MethodName)) (z := (⟨"com/example/hopwise/hopwise/paths/ArcChanges", "firstShortenedOutOf", "(I)I"⟩ : MethodName)) hown (Wd hw 25 rfl) (Wd hw 26 rfl) (Wd hw 28 rfl) (Wd hw 27 rfl) (Wd hw 3 rfl) (Wd hw 29 rfl) (Wd hw 28 rfl) (by decide) 0 b62 [(.int nd61)] [] E_b62 (rm4_1 l Z a0 hw b62 nd61 b9 b47 ([(.int s1), (.int s2), (.int s3), (.int s4), (.int s5), (.int s6), (.int s7), (.int s8)]) p19 (if p19.toInt = 0 then s1 else s2) T66.heap n0 sz66 F_b62_starts F_b62_shortened V_b9 V_b47 (own_ge hp0 (by decide)) (own_pick (K := 0) hp0 rfl rfl)) (by decide) (by decide) e66 (by rw [hml]; rfl) pd5 rfl rfl (Nat.le_of_eq rfl) (hb hby at_327) (by decide) (by decide) ?_
      intro T67 L67 v67 X67 hQ67
      obtain ⟨rfl, Nq67, e67⟩ := hQ67
      have N67 := Fr.app N66 Nq67
      show Own.Go p e below _ (T67.setTop (mkF m 330 #[.val (.int a), .val (.int b), .val (.int c0), .val (.int s1), .val (.int s2), .val (.int s3), .val (.int s4), .val (.int s5), .val (.int s6), .val (.int s7), .val (.int s8), .val (.ref b9), .val (.int (1 : Int32)), .val (.int p19), .val (.int p20), .val (.int p21), .val (.int p22), .val (.ref b47), .val (.int nd61), .val (.ref b62), .unset, .unset] [(.int (if (if p19.toInt = 0 then s1 else s2) < nd61 then (1 : Int32) else 0))]))
      refine Own.istore X67 hx (pc := 330) #[.val (.int a), .val (.int b), .val (.int c0), .val (.int s1), .val (.int s2), .val (.int s3), .val (.int s4), .val (.int s5), .val (.int s6), .val (.int s7), .val (.int s8), .val (.ref b9), .val (.int (1 : Int32)), .val (.int p19), .val (.int p20), .val (.int p21), .val (.int p22), .val (.ref b47), .val (.int nd61), .val (.ref b62), .val (.int (if (if p19.toInt = 0 then s1 else s2) < nd61 then (1 : Int32) else 0)), .unset] (hb hby at_330) rfl ?_
      refine Own.iload X67 hx (pc := 332) (hb hby at_332) rfl ?_
      refine Own.iconst X67 hx (pc := 334) (0 : Int32) (hb hby at_334) (by decide) ?_
      refine Own.aload X67 hx (pc := 335) (hb hby at_335) rfl rfl ?_
      refine Own.iload X67 hx (pc := 337) (hb hby at_337) rfl ?_
      refine Own.iaload X67 hx hZ (pc := 339) e67 V_b9 (v := (.int (if p19.toInt = 0 then s1 else s2))) p19.toNatClampNeg (own_ge hp0 (by decide)) rfl (own_pick (K := 0) hp0 rfl rfl) (hb hby at_339) ?_
      refine Own.iload X67 hx (pc := 340) (hb hby at_340) rfl ?_
      refine Own.callStatic X67 hx hZ (pc := 342) (y := (⟨"com/example/hopwise/hopwise/paths/ArcChangesFirstShortenedOutOfPinLaw", "below", "(IIII)I"⟩ : MethodName)) hown (Wd hw 30 rfl) (Wd hw 31 rfl) (Wd hw 32 rfl) (Wd hw 33 rfl) (by decide) 0 [(.int (1 : Int32)), (.int (0 : Int32)), (.int (if p19.toInt = 0 then s1 else s2)), (.int nd61)] [] (rm5 l Z a0 hw (1 : Int32) (0 : Int32) (if p19.toInt = 0 then s1 else s2) nd61 T66.heap n0 sz66 ) (by decide) (by decide) e67 (by rw [hml]; rfl) pd6 rfl rfl (Nat.le_of_eq rfl) (hb hby at_342) (by decide) (by decide) ?_
      intro T68 L68 v68 X68 hQ68
      obtain ⟨rfl, Nq68, e68⟩ := hQ68
      have N68 := Fr.app N67 Nq68
      show Own.Go p e below _ (T68.setTop (mkF m 345 #[.val (.int a), .val (.int b), .val (.int c0), .val (.int s1), .val (.int s2), .val (.int s3), .val (.int s4), .val (.int s5), .val (.int s6), .val (.int s7), .val (.int s8), .val (.ref b9), .val (.int (1 : Int32)), .val (.int p19), .val (.int p20), .val (.int p21), .val (.int p22), .val (.ref b47), .val (.int nd61), .val (.ref b62), .val (.int (if (if p19.toInt = 0 then s1 else s2) < nd61 then (1 : Int32) else 0)), .unset] [(.int (if ((0 : Int32) < (1 : Int32) ∧ (if p19.toInt = 0 then s1 else s2) < nd61) then (1 : Int32) else 0))]))
      refine Own.iload X68 hx (pc := 345) (hb hby at_345) rfl ?_
      refine Own.iconst X68 hx (pc := 347) (1 : Int32) (hb hby at_347) (by decide) ?_
      refine Own.aload X68 hx (pc := 348) (hb hby at_348) rfl rfl ?_
      refine Own.iload X68 hx (pc := 350) (hb hby at_350) rfl ?_
      refine Own.iaload X68 hx hZ (pc := 352) e68 V_b9 (v := (.int (if p20.toInt = 2 then s3 else s4))) p20.toNatClampNeg (own_ge hp1 (by decide)) rfl (own_pick (K := 2) hp1 rfl rfl) (hb hby at_352) ?_
      refine Own.iload X68 hx (pc := 353) (hb hby at_353) rfl ?_
      refine Own.callStatic X68 hx hZ (pc := 355) (y := (⟨"com/example/hopwise/hopwise/paths/ArcChangesFirstShortenedOutOfPinLaw", "below", "(IIII)I"⟩ : MethodName)) hown (Wd hw 30 rfl) (Wd hw 31 rfl) (Wd hw 32 rfl) (Wd hw 33 rfl) (by decide) 1 [(.int (1 : Int32)), (.int (1 : Int32)), (.int (if p20.toInt = 2 then s3 else s4)), (.int nd61)] [(.int (if ((0 : Int32) < (1 : Int32) ∧ (if p19.toInt = 0 then s1 else s2) < nd61) then (1 : Int32) else 0))] (rm5 l Z a0 hw (1 : Int32) (1 : Int32) (if p20.toInt = 2 then s3 else s4) nd61 T66.heap n0 sz66 ) (by decide) (by decide) e68 (by rw [hml]; rfl) pd6 rfl rfl (Nat.le_of_eq rfl) (hb hby at_355) (by decide) (by decide) ?_
      intro T69 L69 v69 X69 hQ69
      obtain ⟨rfl, Nq69, e69⟩ := hQ69
      have N69 := Fr.app N68 Nq69
      show Own.Go p e below _ (T69.setTop (mkF m 358 #[.val (.int a), .val (.int b), .val (.int c0), .val (.int s1), .val (.int s2), .val (.int s3), .val (.int s4), .val (.int s5), .val (.int s6), .val (.int s7), .val (.int s8), .val (.ref b9), .val (.int (1 : Int32)), .val (.int p19), .val (.int p20), .val (.int p21), .val (.int p22), .val (.ref b47), .val (.int nd61), .val (.ref b62), .val (.int (if (if p19.toInt = 0 then s1 else s2) < nd61 then (1 : Int32) else 0)), .unset] [(.int (if ((1 : Int32) < (1 : Int32) ∧ (if p20.toInt = 2 then s3 else s4) < nd61) then (1 : Int32) else 0)), (.int (if ((0 : Int32) < (1 : Int32) ∧ (if p19.toInt = 0 then s1 else s2) < nd61) then (1 : Int32) else 0))]))
      refine Own.iadd X69 hx (pc := 358) (hb hby at_358) ?_
      refine Own.iload X69 hx (pc := 359) (hb hby at_359) rfl ?_
      refine Own.iconst X69 hx (pc := 361) (2 : Int32) (hb hby at_361) (by decide) ?_
      refine Own.aload X69 hx (pc := 362) (hb hby at_362) rfl rfl ?_
      refine Own.iload X69 hx (pc := 364) (hb hby at_364) rfl ?_
      refine Own.iaload X69 hx hZ (pc := 366) e69 V_b9 (v := (.int (if p21.toInt = 4 then s5 else s6))) p21.toNatClampNeg (own_ge hp2 (by decide)) rfl (own_pick (K := 4) hp2 rfl rfl) (hb hby at_366) ?_
      refine Own.iload X69 hx (pc := 367) (hb hby at_367) rfl ?_
      refine Own.callStatic X69 hx hZ (pc := 369) (y := (⟨"com/example/hopwise/hopwise/paths/ArcChangesFirstShortenedOutOfPinLaw", "below", "(IIII)I"⟩ : MethodName)) hown (Wd hw 30 rfl) (Wd hw 31 rfl) (Wd hw 32 rfl) (Wd hw 33 rfl) (by decide) 1 [(.int (1 : Int32)), (.int (2 : Int32)), (.int (if p21.toInt = 4 then s5 else s6)), (.int nd61)] [(.int ((if ((0 : Int32) < (1 : Int32) ∧ (if p19.toInt = 0 then s1 else s2) < nd61) then (1 : Int32) else 0) + (if ((1 : Int32) < (1 : Int32) ∧ (if p20.toInt = 2 then s3 else s4) < nd61) then (1 : Int32) else 0)))] (rm5 l Z a0 hw (1 : Int32) (2 : Int32) (if p21.toInt = 4 then s5 else s6) nd61 T66.heap n0 sz66 ) (by decide) (by decide) e69 (by rw [hml]; rfl) pd6 rfl rfl (Nat.le_of_eq rfl) (hb hby at_369) (by decide) (by decide) ?_
      intro T70 L70 v70 X70 hQ70
      obtain ⟨rfl, Nq70, e70⟩ := hQ70
      have N70 := Fr.app N69 Nq70
      show Own.Go p e below _ (T70.setTop (mkF m 372 #[.val (.int a), .val (.int b), .val (.int c0), .val (.int s1), .val (.int s2), .val (.int s3), .val (.int s4), .val (.int s5), .val (.int s6), .val (.int s7), .val (.int s8), .val (.ref b9), .val (.int (1 : Int32)), .val (.int p19), .val (.int p20), .val (.int p21), .val (.int p22), .val (.ref b47), .val (.int nd61), .val (.ref b62), .val (.int (if (if p19.toInt = 0 then s1 else s2) < nd61 then (1 : Int32) else 0)), .unset] [(.int (if ((2 : Int32) < (1 : Int32) ∧ (if p21.toInt = 4 then s5 else s6) < nd61) then (1 : Int32) else 0)), (.int ((if ((0 : Int32) < (1 : Int32) ∧ (if p19.toInt = 0 then s1 else s2) < nd61) then (1 : Int32) else 0) + (if ((1 : Int32) < (1 : Int32) ∧ (if p20.toInt = 2 then s3 else s4) < nd61) then (1 : Int32) else 0)))]))
      refine Own.iadd X70 hx (pc := 372) (hb hby at_372) ?_
      refine Own.iload X70 hx (pc := 373) (hb hby at_373) rfl ?_
      refine Own.iconst X70 hx (pc := 375) (3 : Int32) (hb hby at_375) (by decide) ?_
      refine Own.aload X70 hx (pc := 376) (hb hby at_376) rfl rfl ?_
      refine Own.iload X70 hx (pc := 378) (hb hby at_378) rfl ?_
      refine Own.iaload X70 hx hZ (pc := 380) e70 V_b9 (v := (.int (if p22.toInt = 6 then s7 else s8))) p22.toNatClampNeg (own_ge hp3 (by decide)) rfl (own_pick (K := 6) hp3 rfl rfl) (hb hby at_380) ?_
      refine Own.iload X70 hx (pc := 381) (hb hby at_381) rfl ?_
      refine Own.callStatic X70 hx hZ (pc := 383) (y := (⟨"com/example/hopwise/hopwise/paths/ArcChangesFirstShortenedOutOfPinLaw", "below", "(IIII)I"⟩ : MethodName)) hown (Wd hw 30 rfl) (Wd hw 31 rfl) (Wd hw 32 rfl) (Wd hw 33 rfl) (by decide) 1 [(.int (1 : Int32)), (.int (3 : Int32)), (.int (if p22.toInt = 6 then s7 else s8)), (.int nd61)] [(.int (((if ((0 : Int32) < (1 : Int32) ∧ (if p19.toInt = 0 then s1 else s2) < nd61) then (1 : Int32) else 0) + (if ((1 : Int32) < (1 : Int32) ∧ (if p20.toInt = 2 then s3 else s4) < nd61) then (1 : Int32) else 0)) + (if ((2 : Int32) < (1 : Int32) ∧ (if p21.toInt = 4 then s5 else s6) < nd61) then (1 : Int32) else 0)))] (rm5 l Z a0 hw (1 : Int32) (3 : Int32) (if p22.toInt = 6 then s7 else s8) nd61 T66.heap n0 sz66 ) (by decide) (by decide) e70 (by rw [hml]; rfl) pd6 rfl rfl (Nat.le_of_eq rfl) (hb hby at_383) (by decide) (by decide) ?_
      intro T71 L71 v71 X71 hQ71
      obtain ⟨rfl, Nq71, e71⟩ := hQ71
      have N71 := Fr.app N70 Nq71
      show Own.Go p e below _ (T71.setTop (mkF m 386 #[.val (.int a), .val (.int b), .val (.int c0), .val (.int s1), .val (.int s2), .val (.int s3), .val (.int s4), .val (.int s5), .val (.int s6), .val (.int s7), .val (.int s8), .val (.ref b9), .val (.int (1 : Int32)), .val (.int p19), .val (.int p20), .val (.int p21), .val (.int p22), .val (.ref b47), .val (.int nd61), .val (.ref b62), .val (.int (if (if p19.toInt = 0 then s1 else s2) < nd61 then (1 : Int32) else 0)), .unset] [(.int (if ((3 : Int32) < (1 : Int32) ∧ (if p22.toInt = 6 then s7 else s8) < nd61) then (1 : Int32) else 0)), (.int (((if ((0 : Int32) < (1 : Int32) ∧ (if p19.toInt = 0 then s1 else s2) < nd61) then (1 : Int32) else 0) + (if ((1 : Int32) < (1 : Int32) ∧ (if p20.toInt = 2 then s3 else s4) < nd61) then (1 : Int32) else 0)) + (if ((2 : Int32) < (1 : Int32) ∧ (if p21.toInt = 4 then s5 else s6) < nd61) then (1 : Int32) else 0)))]))
      refine Own.iadd X71 hx (pc := 386) (hb hby at_386) ?_
      refine Own.istore X71 hx (pc := 387) #[.val (.int a), .val (.int b), .val (.int c0), .val (.int s1), .val (.int s2), .val (.int s3), .val (.int s4), .val (.int s5), .val (.int s6), .val (.int s7), .val (.int s8), .val (.ref b9), .val (.int (1 : Int32)), .val (.int p19), .val (.int p20), .val (.int p21), .val (.int p22), .val (.ref b47), .val (.int nd61), .val (.ref b62), .val (.int (if (if p19.toInt = 0 then s1 else s2) < nd61 then (1 : Int32) else 0)), .val (.int ((((if ((0 : Int32) < (1 : Int32) ∧ (if p19.toInt = 0 then s1 else s2) < nd61) then (1 : Int32) else 0) + (if ((1 : Int32) < (1 : Int32) ∧ (if p20.toInt = 2 then s3 else s4) < nd61) then (1 : Int32) else 0)) + (if ((2 : Int32) < (1 : Int32) ∧ (if p21.toInt = 4 then s5 else s6) < nd61) then (1 : Int32) else 0)) + (if ((3 : Int32) < (1 : Int32) ∧ (if p22.toInt = 6 then s7 else s8) < nd61) then (1 : Int32) else 0)))] (hb hby at_387) rfl ?_
      refine Own.iload X71 hx (pc := 389) (hb hby at_389) rfl ?_
      refine Own.iload X71 hx (pc := 391) (hb hby at_391) rfl ?_
      refine Own.icmpNo X71 hx (pc := 393) (hb hby at_393) (XT.ii_ne_f (by simp)) ?_
      refine Own.iconst X71 hx (pc := 396) (1 : Int32) (hb hby at_396) (by decide) ?_
      refine Own.goto X71 hx (pc := 397) 401 (hb hby at_397) (by decide) (by decide) ?_
      exact Own.ireturn X71 hx hk hret (by simp) rfl (hb hby at_401) e71 ⟨rfl, N71⟩ (by decide) (by decide)
  · refine Own.iload X17 hx (pc := 170) (hb hby at_170) rfl ?_
    refine Own.ifYes X17 hx (pc := 172) 183 (hb hby at_172) (by decide) (by decide) (by decide) ?_
    refine Own.iload X17 hx (pc := 183) (hb hby at_183) rfl ?_
    refine Own.iconst X17 hx (pc := 185) (1 : Int32) (hb hby at_185) (by decide) ?_
    refine Own.icmpYes X17 hx (pc := 186) 202 (hb hby at_186) (by decide) (by decide) (by decide) ?_
    refine Own.iload X17 hx (pc := 202) (hb hby at_202) rfl ?_
    refine Own.iconst X17 hx (pc := 204) (2 : Int32) (hb hby at_204) (by decide) ?_
    refine Own.icmpNo X17 hx (pc := 205) (hb hby at_205) (by decide) ?_
    refine Own.iconst X17 hx (pc := 208) (2 : Int32) (hb hby at_208) (by decide) ?_
    refine Own.newarr X17 hx hZ (pc := 209) (aty := .int) (Wd hw 0 rfl) e17 (hb hby at_209) (by decide) 2 2 (by decide) (by decide) (by decide) (by decide) (by decide) ?_
    intro T72 h72 b72 g72 X72 e72 Ex72 V_b72
    have ne_b9_b72 : b9 ≠ b72 := Nat.ne_of_lt (g72 ▸ V_b9.lt)
    have V_b9 := V_b9.ext Ex72
    have ge_b72 : n0 ≤ b72 := g72 ▸ sz17
    have sz72 : n0 ≤ h72.size := Nat.le_trans sz17 Ex72.1
    replace V_b72 : Own.VArr Z h72 b72 .int [(.int (0 : Int32)), (.int (0 : Int32))] := V_b72
    refine Own.dup X72 hx (pc := 211) (hb hby at_211) rfl ?_
    refine Own.iconst X72 hx (pc := 212) (0 : Int32) (hb hby at_212) (by decide) ?_
    refine Own.iload X72 hx (pc := 213) (hb hby at_213) rfl ?_
    refine Own.iastore X72 hx hZ (pc := 215) e72 V_b72 0 (by decide) (by decide) (of_decide_eq_true rfl) N17 ge_b72 (hb hby at_215) ?_
    intro T73 h73 X73 e73 W73 N73 V_b72
    replace V_b72 : Own.VArr Z h73 b72 .int [(.int p19), (.int (0 : Int32))] := V_b72
    have sz73 : n0 ≤ h73.size := Nat.le_trans sz72 (Nat.le_of_eq (Wr.size W73).symm)
    have V_b9 := V_b9.other W73 ne_b9_b72
    refine Own.dup X73 hx (pc := 216) (hb hby at_216) rfl ?_
    refine Own.iconst X73 hx (pc := 217) (1 : Int32) (hb hby at_217) (by decide) ?_
    refine Own.iload X73 hx (pc := 218) (hb hby at_218) rfl ?_
    refine Own.iastore X73 hx hZ (pc := 220) e73 V_b72 1 (by decide) (by decide) (of_decide_eq_true rfl) N73 ge_b72 (hb hby at_220) ?_
    intro T74 h74 X74 e74 W74 N74 V_b72
    replace V_b72 : Own.VArr Z h74 b72 .int [(.int p19), (.int p20)] := V_b72
    have sz74 : n0 ≤ h74.size := Nat.le_trans sz73 (Nat.le_of_eq (Wr.size W74).symm)
    have V_b9 := V_b9.other W74 ne_b9_b72
    refine Own.astore X74 hx (pc := 221) #[.val (.int a), .val (.int b), .val (.int c0), .val (.int s1), .val (.int s2), .val (.int s3), .val (.int s4), .val (.int s5), .val (.int s6), .val (.int s7), .val (.int s8), .val (.ref b9), .val (.int (2 : Int32)), .val (.int p19), .val (.int p20), .val (.int p21), .val (.int p22), .val (.ref b72), .unset, .unset, .unset, .unset] (hb hby at_221) rfl rfl ?_
    refine Own.goto X74 hx (pc := 223) 280 (hb hby at_223) (by decide) (by decide) ?_
    refine Own.iloadN X74 hx (pc := 280) (hb hby at_280) rfl ?_
    refine Own.iconst X74 hx (pc := 281) (1 : Int32) (hb hby at_281) (by decide) ?_
    refine Own.iand X74 hx (pc := 282) (hb hby at_282) ?_
    by_cases c75 : (c0 &&& (1 : Int32)) = (0 : Int32)
    · refine Own.ifYes X74 hx (pc := 283) 292 (hb hby at_283) (XT.i0_eq_t c75) (by decide) (by decide) ?_
      refine Own.iloadN X74 hx (pc := 292) (hb hby at_292) rfl ?_
      refine Own.iconst X74 hx (pc := 293) (1 : Int32) (hb hby at_293) (by decide) ?_
      refine Own.iushr X74 hx (pc := 294) (hb hby at_294) ?_
      refine Own.bipush X74 hx (pc := 295) (31 : Int32) (hb hby at_295) (by decide) ?_
      refine Own.iand X74 hx (pc := 297) (hb hby at_297) ?_
      generalize qnd76 : ((XT.ushr c0 (1 : Int32)) &&& (31 : Int32)) = nd76
      refine Own.istore X74 hx (pc := 298) #[.val (.int a), .val (.int b), .val (.int c0), .val (.int s1), .val (.int s2), .val (.int s3), .val (.int s4), .val (.int s5), .val (.int s6), .val (.int s7), .val (.int s8), .val (.ref b9), .val (.int (2 : Int32)), .val (.int p19), .val (.int p20), .val (.int p21), .val (.int p22), .val (.ref b72), .val (.int nd76), .unset, .unset, .unset] (hb hby at_298) rfl ?_
      refine Own.newobj X74 hx hZ (pc := 300) hown (Wd hw 1 rfl) (Wd hw 2 rfl) (Wd hw 3 rfl) e74 (hb hby at_300) (by decide) (by decide) ?_
      intro T77 h77 b77 g77 X77 e77 Ex77 E_b77 D77
      have ne_b9_b77 : b9 ≠ b77 := Nat.ne_of_lt (g77 ▸ V_b9.lt)
      have ne_b72_b77 : b72 ≠ b77 := Nat.ne_of_lt (g77 ▸ V_b72.lt)
      have V_b9 := V_b9.ext Ex77
      have V_b72 := V_b72.ext Ex77
      have ge_b77 : n0 ≤ b77 := g77 ▸ sz74
      have sz77 : n0 ≤ h77.size := Nat.le_trans sz74 Ex77.1
      have F_b77_heads : Fld Z h77 b77 "com/example/hopwise/hopwise/paths/ArcChanges" "heads" "[I" .null := D77 (Or.inr (Wd hw 16 rfl)) (ty := (.array .int)) (by decide)
      have F_b77_starts : Fld Z h77 b77 "com/example/hopwise/hopwise/paths/ArcChanges" "starts" "[I" .null := D77 (Or.inr (Wd hw 18 rfl)) (ty := (.array .int)) (by decide)
      have F_b77_arcs : Fld Z h77 b77 "com/example/hopwise/hopwise/paths/ArcChanges" "arcs" "[I" .null := D77 (Or.inr (Wd hw 20 rfl)) (ty := (.array .int)) (by decide)
      have F_b77_shortened : Fld Z h77 b77 "com/example/hopwise/hopwise/paths/ArcChanges" "shortened" "[I" .null := D77 (Or.inr (Wd hw 22 rfl)) (ty := (.array .int)) (by decide)
      have F_b77_lengthsBefore : Fld Z h77 b77 "com/example/hopwise/hopwise/paths/ArcChanges" "lengthsBefore" "[I" .null := D77 (Or.inr (Wd hw 24 rfl)) (ty := (.array .int)) (by decide)
      refine Own.dup X77 hx (pc := 303) (hb hby at_303) rfl ?_
      refine Own.iconst X77 hx (pc := 304) (0 : Int32) (hb hby at_304) (by decide) ?_
      refine Own.newarr X77 hx hZ (pc := 305) (aty := .int) (Wd hw 0 rfl) e77 (hb hby at_305) (by decide) 0 0 (by decide) (by decide) (by decide) (by decide) (by decide) ?_
      intro T78 h78 b78 g78 X78 e78 Ex78 V_b78
      have ne_b9_b78 : b9 ≠ b78 := Nat.ne_of_lt (g78 ▸ V_b9.lt)
      have ne_b72_b78 : b72 ≠ b78 := Nat.ne_of_lt (g78 ▸ V_b72.lt)
      have ne_b77_b78 : b77 ≠ b78 := Nat.ne_of_lt (g78 ▸ E_b77.lt)
      have V_b9 := V_b9.ext Ex78
      have V_b72 := V_b72.ext Ex78
      have E_b77 := Exa.ext Ex78 E_b77
      have F_b77_heads := Fld.ext Ex78 F_b77_heads
      have F_b77_starts := Fld.ext Ex78 F_b77_starts
      have F_b77_arcs := Fld.ext Ex78 F_b77_arcs
      have F_b77_shortened := Fld.ext Ex78 F_b77_shortened
      have F_b77_lengthsBefore := Fld.ext Ex78 F_b77_lengthsBefore
      have ge_b78 : n0 ≤ b78 := g78 ▸ sz77
      have sz78 : n0 ≤ h78.size := Nat.le_trans sz77 Ex78.1
      replace V_b78 : Own.VArr Z h78 b78 .int ([] : List Value) := V_b78
      refine Own.aload X78 hx (pc := 307) (hb hby at_307) rfl rfl ?_
      refine Own.bipush X78 hx (pc := 309) (8 : Int32) (hb hby at_309) (by decide) ?_
      refine Own.newarr X78 hx hZ (pc := 311) (aty := .int) (Wd hw 0 rfl) e78 (hb hby at_311) (by decide) 8 8 (by decide) (by decide) (by decide) (by decide) (by decide) ?_
      intro T79 h79 b79 g79 X79 e79 Ex79 V_b79
      have ne_b9_b79 : b9 ≠ b79 := Nat.ne_of_lt (g79 ▸ V_b9.lt)
      have ne_b72_b79 : b72 ≠ b79 := Nat.ne_of_lt (g79 ▸ V_b72.lt)
      have ne_b77_b79 : b77 ≠ b79 := Nat.ne_of_lt (g79 ▸ E_b77.lt)
      have ne_b78_b79 : b78 ≠ b79 := Nat.ne_of_lt (g79 ▸ V_b78.lt)
      have V_b9 := V_b9.ext Ex79
      have V_b72 := V_b72.ext Ex79
      have E_b77 := Exa.ext Ex79 E_b77
      have F_b77_heads := Fld.ext Ex79 F_b77_heads
      have F_b77_starts := Fld.ext Ex79 F_b77_starts
      have F_b77_arcs := Fld.ext Ex79 F_b77_arcs
      have F_b77_shortened := Fld.ext Ex79 F_b77_shortened
      have F_b77_lengthsBefore := Fld.ext Ex79 F_b77_lengthsBefore
      have V_b78 := V_b78.ext Ex79
      have ge_b79 : n0 ≤ b79 := g79 ▸ sz78
      have sz79 : n0 ≤ h79.size := Nat.le_trans sz78 Ex79.1
      replace V_b79 : Own.VArr Z h79 b79 .int [(.int (0 : Int32)), (.int (0 : Int32)), (.int (0 : Int32)), (.int (0 : Int32)), (.int (0 : Int32)), (.int (0 : Int32)), (.int (0 : Int32)), (.int (0 : Int32))] := V_b79
      refine Own.aload X79 hx (pc := 313) (hb hby at_313) rfl rfl ?_
      refine Own.iconst X79 hx (pc := 315) (4 : Int32) (hb hby at_315) (by decide) ?_
      refine Own.newarr X79 hx hZ (pc := 316) (aty := .int) (Wd hw 0 rfl) e79 (hb hby at_316) (by decide) 4 4 (by decide) (by decide) (by decide) (by decide) (by decide) ?_
      intro T80 h80 b80 g80 X80 e80 Ex80 V_b80
      have ne_b9_b80 : b9 ≠ b80 := Nat.ne_of_lt (g80 ▸ V_b9.lt)
      have ne_b72_b80 : b72 ≠ b80 := Nat.ne_of_lt (g80 ▸ V_b72.lt)
      have ne_b77_b80 : b77 ≠ b80 := Nat.ne_of_lt (g80 ▸ E_b77.lt)
      have ne_b78_b80 : b78 ≠ b80 := Nat.ne_of_lt (g80 ▸ V_b78.lt)
      have ne_b79_b80 : b79 ≠ b80 := Nat.ne_of_lt (g80 ▸ V_b79.lt)
      have V_b9 := V_b9.ext Ex80
      have V_b72 := V_b72.ext Ex80
      have E_b77 := Exa.ext Ex80 E_b77
      have F_b77_heads := Fld.ext Ex80 F_b77_heads
      have F_b77_starts := Fld.ext Ex80 F_b77_starts
      have F_b77_arcs := Fld.ext Ex80 F_b77_arcs
      have F_b77_shortened := Fld.ext Ex80 F_b77_shortened
      have F_b77_lengthsBefore := Fld.ext Ex80 F_b77_lengthsBefore
      have V_b78 := V_b78.ext Ex80
      have V_b79 := V_b79.ext Ex80
      have ge_b80 : n0 ≤ b80 := g80 ▸ sz79
      have sz80 : n0 ≤ h80.size := Nat.le_trans sz79 Ex80.1
      replace V_b80 : Own.VArr Z h80 b80 .int [(.int (0 : Int32)), (.int (0 : Int32)), (.int (0 : Int32)), (.int (0 : Int32))] := V_b80
      refine Own.callSpecial X80 hx hZ (pc := 318) (y := (⟨"com/example/hopwise/hopwise/paths/ArcChanges", "<init>", "([I[I[I[I[I)V"⟩ : MethodName)) rfl hown (Wd hw 4 rfl) (Wd hw 5 rfl) (Wd hw 3 rfl) (Wd hw 6 rfl) (by decide) 1 b77 [(.ref b78), (.ref b9), (.ref b79), (.ref b72), (.ref b80)] [(.ref b77)] (rm1 l Z a0 hw b77 b78 b9 b79 b72 b80 h80 n0 sz80 E_b77 F_b77_heads F_b77_starts F_b77_arcs F_b77_shortened F_b77_lengthsBefore ge_b77) (by decide) (by decide) e80 (by rw [hml]; rfl) pd4 rfl rfl (Nat.le_of_eq rfl) (hb hby at_318) (by decide) (by decide) ?_
      intro T81 L81 v81 X81 hQ81
      obtain ⟨rfl, Nq81, K81, F_b77_starts', F_b77_shortened'⟩ := hQ81
      have e81 : T81.heap = T81.heap := rfl
      have V_b9 := V_b9.keep K81 (ninS ne_b9_b77 nin0)
      have V_b72 := V_b72.keep K81 (ninS ne_b72_b77 nin0)
      have E_b77 := E_b77.keep K81
      have V_b78 := V_b78.keep K81 (ninS (Ne.symm ne_b77_b78) nin0)
      have V_b79 := V_b79.keep K81 (ninS (Ne.symm ne_b77_b79) nin0)
      have V_b80 := V_b80.keep K81 (ninS (Ne.symm ne_b77_b80) nin0)
      have sz81 : n0 ≤ T81.heap.size := Nat.le_trans sz80 K81.1
      have F_b77_starts := F_b77_starts'
      have F_b77_shortened := F_b77_shortened'
      have N81 := Fr.app N74 Nq81
      show Own.Go p e below _ (T81.setTop (mkF m 321 #[.val (.int a), .val (.int b), .val (.int c0), .val (.int s1), .val (.int s2), .val (.int s3), .val (.int s4), .val (.int s5), .val (.int s6), .val (.int s7), .val (.int s8), .val (.ref b9), .val (.int (2 : Int32)), .val (.int p19), .val (.int p20), .val (.int p21), .val (.int p22), .val (.ref b72), .val (.int nd76), .unset, .unset, .unset] [(.ref b77)]))
      refine Own.astore X81 hx (pc := 321) #[.val (.int a), .val (.int b), .val (.int c0), .val (.int s1), .val (.int s2), .val (.int s3), .val (.int s4), .val (.int s5), .val (.int s6), .val (.int s7), .val (.int s8), .val (.ref b9), .val (.int (2 : Int32)), .val (.int p19), .val (.int p20), .val (.int p21), .val (.int p22), .val (.ref b72), .val (.int nd76), .val (.ref b77), .unset, .unset] (hb hby at_321) rfl rfl ?_
      refine Own.aload X81 hx (pc := 323) (hb hby at_323) rfl rfl ?_
      refine Own.iload X81 hx (pc := 325) (hb hby at_325) rfl ?_
      refine Own.callVirtual X81 hx hZ (pc := 327) (y := (⟨"com/example/hopwise/hopwise/paths/ArcChanges", "firstShortenedOutOf", "(I)I"⟩ : MethodName)) (z := (⟨"com/example/hopwise/hopwise/paths/ArcChanges", "firstShortenedOutOf", "(I)I"⟩ : MethodName)) hown (Wd hw 25 rfl) (Wd hw 26 rfl) (Wd hw 28 rfl) (Wd hw 27 rfl) (Wd hw 3 rfl) (Wd hw 29 rfl) (Wd hw 28 rfl) (by decide) 0 b77 [(.int nd76)] [] E_b77 (rm4_2 l Z a0 hw b77 nd76 b9 b72 ([(.int s1), (.int s2), (.int s3), (.int s4), (.int s5), (.int s6), (.int s7), (.int s8)]) p19 p20 (if p19.toInt = 0 then s1 else s2) (if p20.toInt = 2 then s3 else s4) T81.heap n0 sz81 F_b77_starts F_b77_shortened V_b9 V_b72 (own_ge hp0 (by decide)) (own_pick (K := 0) hp0 rfl rfl) (own_ge hp1 (by decide)) (own_pick (K := 2) hp1 rfl rfl) (own_mono (by omega) (by omega) (by omega) (by omega))) (by decide) (by decide) e81 (by rw [hml]; rfl) pd5 rfl rfl (Nat.le_of_eq rfl) (hb hby at_327) (by decide) (by decide) ?_
      intro T82 L82 v82 X82 hQ82
      obtain ⟨rfl, Nq82, e82⟩ := hQ82
      have N82 := Fr.app N81 Nq82
      show Own.Go p e below _ (T82.setTop (mkF m 330 #[.val (.int a), .val (.int b), .val (.int c0), .val (.int s1), .val (.int s2), .val (.int s3), .val (.int s4), .val (.int s5), .val (.int s6), .val (.int s7), .val (.int s8), .val (.ref b9), .val (.int (2 : Int32)), .val (.int p19), .val (.int p20), .val (.int p21), .val (.int p22), .val (.ref b72), .val (.int nd76), .val (.ref b77), .unset, .unset] [(.int ((if (if p19.toInt = 0 then s1 else s2) < nd76 then (1 : Int32) else 0) + (if (if p20.toInt = 2 then s3 else s4) < nd76 then (1 : Int32) else 0)))]))
      refine Own.istore X82 hx (pc := 330) #[.val (.int a), .val (.int b), .val (.int c0), .val (.int s1), .val (.int s2), .val (.int s3), .val (.int s4), .val (.int s5), .val (.int s6), .val (.int s7), .val (.int s8), .val (.ref b9), .val (.int (2 : Int32)), .val (.int p19), .val (.int p20), .val (.int p21), .val (.int p22), .val (.ref b72), .val (.int nd76), .val (.ref b77), .val (.int ((if (if p19.toInt = 0 then s1 else s2) < nd76 then (1 : Int32) else 0) + (if (if p20.toInt = 2 then s3 else s4) < nd76 then (1 : Int32) else 0))), .unset] (hb hby at_330) rfl ?_
      refine Own.iload X82 hx (pc := 332) (hb hby at_332) rfl ?_
      refine Own.iconst X82 hx (pc := 334) (0 : Int32) (hb hby at_334) (by decide) ?_
      refine Own.aload X82 hx (pc := 335) (hb hby at_335) rfl rfl ?_
      refine Own.iload X82 hx (pc := 337) (hb hby at_337) rfl ?_
      refine Own.iaload X82 hx hZ (pc := 339) e82 V_b9 (v := (.int (if p19.toInt = 0 then s1 else s2))) p19.toNatClampNeg (own_ge hp0 (by decide)) rfl (own_pick (K := 0) hp0 rfl rfl) (hb hby at_339) ?_
      refine Own.iload X82 hx (pc := 340) (hb hby at_340) rfl ?_
      refine Own.callStatic X82 hx hZ (pc := 342) (y := (⟨"com/example/hopwise/hopwise/paths/ArcChangesFirstShortenedOutOfPinLaw", "below", "(IIII)I"⟩ : MethodName)) hown (Wd hw 30 rfl) (Wd hw 31 rfl) (Wd hw 32 rfl) (Wd hw 33 rfl) (by decide) 0 [(.int (2 : Int32)), (.int (0 : Int32)), (.int (if p19.toInt = 0 then s1 else s2)), (.int nd76)] [] (rm5 l Z a0 hw (2 : Int32) (0 : Int32) (if p19.toInt = 0 then s1 else s2) nd76 T81.heap n0 sz81 ) (by decide) (by decide) e82 (by rw [hml]; rfl) pd6 rfl rfl (Nat.le_of_eq rfl) (hb hby at_342) (by decide) (by decide) ?_
      intro T83 L83 v83 X83 hQ83
      obtain ⟨rfl, Nq83, e83⟩ := hQ83
      have N83 := Fr.app N82 Nq83
      show Own.Go p e below _ (T83.setTop (mkF m 345 #[.val (.int a), .val (.int b), .val (.int c0), .val (.int s1), .val (.int s2), .val (.int s3), .val (.int s4), .val (.int s5), .val (.int s6), .val (.int s7), .val (.int s8), .val (.ref b9), .val (.int (2 : Int32)), .val (.int p19), .val (.int p20), .val (.int p21), .val (.int p22), .val (.ref b72), .val (.int nd76), .val (.ref b77), .val (.int ((if (if p19.toInt = 0 then s1 else s2) < nd76 then (1 : Int32) else 0) + (if (if p20.toInt = 2 then s3 else s4) < nd76 then (1 : Int32) else 0))), .unset] [(.int (if ((0 : Int32) < (2 : Int32) ∧ (if p19.toInt = 0 then s1 else s2) < nd76) then (1 : Int32) else 0))]))
      refine Own.iload X83 hx (pc := 345) (hb hby at_345) rfl ?_
      refine Own.iconst X83 hx (pc := 347) (1 : Int32) (hb hby at_347) (by decide) ?_
      refine Own.aload X83 hx (pc := 348) (hb hby at_348) rfl rfl ?_
      refine Own.iload X83 hx (pc := 350) (hb hby at_350) rfl ?_
      refine Own.iaload X83 hx hZ (pc := 352) e83 V_b9 (v := (.int (if p20.toInt = 2 then s3 else s4))) p20.toNatClampNeg (own_ge hp1 (by decide)) rfl (own_pick (K := 2) hp1 rfl rfl) (hb hby at_352) ?_
      refine Own.iload X83 hx (pc := 353) (hb hby at_353) rfl ?_
      refine Own.callStatic X83 hx hZ (pc := 355) (y := (⟨"com/example/hopwise/hopwise/paths/ArcChangesFirstShortenedOutOfPinLaw", "below", "(IIII)I"⟩ : MethodName)) hown (Wd hw 30 rfl) (Wd hw 31 rfl) (Wd hw 32 rfl) (Wd hw 33 rfl) (by decide) 1 [(.int (2 : Int32)), (.int (1 : Int32)), (.int (if p20.toInt = 2 then s3 else s4)), (.int nd76)] [(.int (if ((0 : Int32) < (2 : Int32) ∧ (if p19.toInt = 0 then s1 else s2) < nd76) then (1 : Int32) else 0))] (rm5 l Z a0 hw (2 : Int32) (1 : Int32) (if p20.toInt = 2 then s3 else s4) nd76 T81.heap n0 sz81 ) (by decide) (by decide) e83 (by rw [hml]; rfl) pd6 rfl rfl (Nat.le_of_eq rfl) (hb hby at_355) (by decide) (by decide) ?_
      intro T84 L84 v84 X84 hQ84
      obtain ⟨rfl, Nq84, e84⟩ := hQ84
      have N84 := Fr.app N83 Nq84
      show Own.Go p e below _ (T84.setTop (mkF m 358 #[.val (.int a), .val (.int b), .val (.int c0), .val (.int s1), .val (.int s2), .val (.int s3), .val (.int s4), .val (.int s5), .val (.int s6), .val (.int s7), .val (.int s8), .val (.ref b9), .val (.int (2 : Int32)), .val (.int p19), .val (.int p20), .val (.int p21), .val (.int p22), .val (.ref b72), .val (.int nd76), .val (.ref b77), .val (.int ((if (if p19.toInt = 0 then s1 else s2) < nd76 then (1 : Int32) else 0) + (if (if p20.toInt = 2 then s3 else s4) < nd76 then (1 : Int32) else 0))), .unset] [(.int (if ((1 : Int32) < (2 : Int32) ∧ (if p20.toInt = 2 then s3 else s4) < nd76) then (1 : Int32) else 0)), (.int (if ((0 : Int32) < (2 : Int32) ∧ (if p19.toInt = 0 then s1 else s2) < nd76) then (1 : Int32) else 0))]))
      refine Own.iadd X84 hx (pc := 358) (hb hby at_358) ?_
      refine Own.iload X84 hx (pc := 359) (hb hby at_359) rfl ?_
      refine Own.iconst X84 hx (pc := 361) (2 : Int32) (hb hby at_361) (by decide) ?_
      refine Own.aload X84 hx (pc := 362) (hb hby at_362) rfl rfl ?_
      refine Own.iload X84 hx (pc := 364) (hb hby at_364) rfl ?_
      refine Own.iaload X84 hx hZ (pc := 366) e84 V_b9 (v := (.int (if p21.toInt = 4 then s5 else s6))) p21.toNatClampNeg (own_ge hp2 (by decide)) rfl (own_pick (K := 4) hp2 rfl rfl) (hb hby at_366) ?_
      refine Own.iload X84 hx (pc := 367) (hb hby at_367) rfl ?_
      refine Own.callStatic X84 hx hZ (pc := 369) (y := (⟨"com/example/hopwise/hopwise/paths/ArcChangesFirstShortenedOutOfPinLaw", "below", "(IIII)I"⟩ : MethodName)) hown (Wd hw 30 rfl) (Wd hw 31 rfl) (Wd hw 32 rfl) (Wd hw 33 rfl) (by decide) 1 [(.int (2 : Int32)), (.int (2 : Int32)), (.int (if p21.toInt = 4 then s5 else s6)), (.int nd76)] [(.int ((if ((0 : Int32) < (2 : Int32) ∧ (if p19.toInt = 0 then s1 else s2) < nd76) then (1 : Int32) else 0) + (if ((1 : Int32) < (2 : Int32) ∧ (if p20.toInt = 2 then s3 else s4) < nd76) then (1 : Int32) else 0)))] (rm5 l Z a0 hw (2 : Int32) (2 : Int32) (if p21.toInt = 4 then s5 else s6) nd76 T81.heap n0 sz81 ) (by decide) (by decide) e84 (by rw [hml]; rfl) pd6 rfl rfl (Nat.le_of_eq rfl) (hb hby at_369) (by decide) (by decide) ?_
      intro T85 L85 v85 X85 hQ85
      obtain ⟨rfl, Nq85, e85⟩ := hQ85
      have N85 := Fr.app N84 Nq85
      show Own.Go p e below _ (T85.setTop (mkF m 372 #[.val (.int a), .val (.int b), .val (.int c0), .val (.int s1), .val (.int s2), .val (.int s3), .val (.int s4), .val (.int s5), .val (.int s6), .val (.int s7), .val (.int s8), .val (.ref b9), .val (.int (2 : Int32)), .val (.int p19), .val (.int p20), .val (.int p21), .val (.int p22), .val (.ref b72), .val (.int nd76), .val (.ref b77), .val (.int ((if (if p19.toInt = 0 then s1 else s2) < nd76 then (1 : Int32) else 0) + (if (if p20.toInt = 2 then s3 else s4) < nd76 then (1 : Int32) else 0))), .unset] [(.int (if ((2 : Int32) < (2 : Int32) ∧ (if p21.toInt = 4 then s5 else s6) < nd76) then (1 : Int32) else 0)), (.int ((if ((0 : Int32) < (2 : Int32) ∧ (if p19.toInt = 0 then s1 else s2) < nd76) then (1 : Int32) else 0) + (if ((1 : Int32) < (2 : Int32) ∧ (if p20.toInt = 2 then s3 else s4) < nd76) then (1 : Int32) else 0)))]))
      refine Own.iadd X85 hx (pc := 372) (hb hby at_372) ?_
      refine Own.iload X85 hx (pc := 373) (hb hby at_373) rfl ?_
      refine Own.iconst X85 hx (pc := 375) (3 : Int32) (hb hby at_375) (by decide) ?_
      refine Own.aload X85 hx (pc := 376) (hb hby at_376) rfl rfl ?_
      refine Own.iload X85 hx (pc := 378) (hb hby at_378) rfl ?_
      refine Own.iaload X85 hx hZ (pc := 380) e85 V_b9 (v := (.int (if p22.toInt = 6 then s7 else s8))) p22.toNatClampNeg (own_ge hp3 (by decide)) rfl (own_pick (K := 6) hp3 rfl rfl) (hb hby at_380) ?_
      refine Own.iload X85 hx (pc := 381) (hb hby at_381) rfl ?_
      refine Own.callStatic X85 hx hZ (pc := 383) (y := (⟨"com/example/hopwise/hopwise/paths/ArcChangesFirstShortenedOutOfPinLaw", "below", "(IIII)I"⟩ : MethodName)) hown (Wd hw 30 rfl) (Wd hw 31 rfl) (Wd hw 32 rfl) (Wd hw 33 rfl) (by decide) 1 [(.int (2 : Int32)), (.int (3 : Int32)), (.int (if p22.toInt = 6 then s7 else s8)), (.int nd76)] [(.int (((if ((0 : Int32) < (2 : Int32) ∧ (if p19.toInt = 0 then s1 else s2) < nd76) then (1 : Int32) else 0) + (if ((1 : Int32) < (2 : Int32) ∧ (if p20.toInt = 2 then s3 else s4) < nd76) then (1 : Int32) else 0)) + (if ((2 : Int32) < (2 : Int32) ∧ (if p21.toInt = 4 then s5 else s6) < nd76) then (1 : Int32) else 0)))] (rm5 l Z a0 hw (2 : Int32) (3 : Int32) (if p22.toInt = 6 then s7 else s8) nd76 T81.heap n0 sz81 ) (by decide) (by decide) e85 (by rw [hml]; rfl) pd6 rfl rfl (Nat.le_of_eq rfl) (hb hby at_383) (by decide) (by decide) ?_
      intro T86 L86 v86 X86 hQ86
      obtain ⟨rfl, Nq86, e86⟩ := hQ86
      have N86 := Fr.app N85 Nq86
      show Own.Go p e below _ (T86.setTop (mkF m 386 #[.val (.int a), .val (.int b), .val (.int c0), .val (.int s1), .val (.int s2), .val (.int s3), .val (.int s4), .val (.int s5), .val (.int s6), .val (.int s7), .val (.int s8), .val (.ref b9), .val (.int (2 : Int32)), .val (.int p19), .val (.int p20), .val (.int p21), .val (.int p22), .val (.ref b72), .val (.int nd76), .val (.ref b77), .val (.int ((if (if p19.toInt = 0 then s1 else s2) < nd76 then (1 : Int32) else 0) + (if (if p20.toInt = 2 then s3 else s4) < nd76 then (1 : Int32) else 0))), .unset] [(.int (if ((3 : Int32) < (2 : Int32) ∧ (if p22.toInt = 6 then s7 else s8) < nd76) then (1 : Int32) else 0)), (.int (((if ((0 : Int32) < (2 : Int32) ∧ (if p19.toInt = 0 then s1 else s2) < nd76) then (1 : Int32) else 0) + (if ((1 : Int32) < (2 : Int32) ∧ (if p20.toInt = 2 then s3 else s4) < nd76) then (1 : Int32) else 0)) + (if ((2 : Int32) < (2 : Int32) ∧ (if p21.toInt = 4 then s5 else s6) < nd76) then (1 : Int32) else 0)))]))
      refine Own.iadd X86 hx (pc := 386) (hb hby at_386) ?_
      refine Own.istore X86 hx (pc := 387) #[.val (.int a), .val (.int b), .val (.int c0), .val (.int s1), .val (.int s2), .val (.int s3), .val (.int s4), .val (.int s5), .val (.int s6), .val (.int s7), .val (.int s8), .val (.ref b9), .val (.int (2 : Int32)), .val (.int p19), .val (.int p20), .val (.int p21), .val (.int p22), .val (.ref b72), .val (.int nd76), .val (.ref b77), .val (.int ((if (if p19.toInt = 0 then s1 else s2) < nd76 then (1 : Int32) else 0) + (if (if p20.toInt = 2 then s3 else s4) < nd76 then (1 : Int32) else 0))), .val (.int ((((if ((0 : Int32) < (2 : Int32) ∧ (if p19.toInt = 0 then s1 else s2) < nd76) then (1 : Int32) else 0) + (if ((1 : Int32) < (2 : Int32) ∧ (if p20.toInt = 2 then s3 else s4) < nd76) then (1 : Int32) else 0)) + (if ((2 : Int32) < (2 : Int32) ∧ (if p21.toInt = 4 then s5 else s6) < nd76) then (1 : Int32) else 0)) + (if ((3 : Int32) < (2 : Int32) ∧ (if p22.toInt = 6 then s7 else s8) < nd76) then (1 : Int32) else 0)))] (hb hby at_387) rfl ?_
      refine Own.iload X86 hx (pc := 389) (hb hby at_389) rfl ?_
      refine Own.iload X86 hx (pc := 391) (hb hby at_391) rfl ?_
      refine Own.icmpNo X86 hx (pc := 393) (hb hby at_393) (XT.ii_ne_f (by simp)) ?_
      refine Own.iconst X86 hx (pc := 396) (1 : Int32) (hb hby at_396) (by decide) ?_
      refine Own.goto X86 hx (pc := 397) 401 (hb hby at_397) (by decide) (by decide) ?_
      exact Own.ireturn X86 hx hk hret (by simp) rfl (hb hby at_401) e86 ⟨rfl, N86⟩ (by decide) (by decide)
    · refine Own.ifNo X74 hx (pc := 283) (hb hby at_283) (XT.i0_eq_f c75) ?_
      refine Own.iloadN X74 hx (pc := 286) (hb hby at_286) rfl ?_
      refine Own.iconst X74 hx (pc := 287) (1 : Int32) (hb hby at_287) (by decide) ?_
      refine Own.ishr X74 hx (pc := 288) (hb hby at_288) ?_
      refine Own.goto X74 hx (pc := 289) 298 (hb hby at_289) (by decide) (by decide) ?_
      generalize qnd87 : (c0 >>> ((1 : Int32) &&& 31)) = nd87
      refine Own.istore X74 hx (pc := 298) #[.val (.int a), .val (.int b), .val (.int c0), .val (.int s1), .val (.int s2), .val (.int s3), .val (.int s4), .val (.int s5), .val (.int s6), .val (.int s7), .val (.int s8), .val (.ref b9), .val (.int (2 : Int32)), .val (.int p19), .val (.int p20), .val (.int p21), .val (.int p22), .val (.ref b72), .val (.int nd87), .unset, .unset, .unset] (hb hby at_298) rfl ?_
      refine Own.newobj X74 hx hZ (pc := 300) hown (Wd hw 1 rfl) (Wd hw 2 rfl) (Wd hw 3 rfl) e74 (hb hby at_300) (by decide) (by decide) ?_
      intro T88 h88 b88 g88 X88 e88 Ex88 E_b88 D88
      have ne_b9_b88 : b9 ≠ b88 := Nat.ne_of_lt (g88 ▸ V_b9.lt)
      have ne_b72_b88 : b72 ≠ b88 := Nat.ne_of_lt (g88 ▸ V_b72.lt)
      have V_b9 := V_b9.ext Ex88
      have V_b72 := V_b72.ext Ex88
      have ge_b88 : n0 ≤ b88 := g88 ▸ sz74
      have sz88 : n0 ≤ h88.size := Nat.le_trans sz74 Ex88.1
      have F_b88_heads : Fld Z h88 b88 "com/example/hopwise/hopwise/paths/ArcChanges" "heads" "[I" .null := D88 (Or.inr (Wd hw 16 rfl)) (ty := (.array .int)) (by decide)
      have F_b88_starts : Fld Z h88 b88 "com/example/hopwise/hopwise/paths/ArcChanges" "starts" "[I" .null := D88 (Or.inr (Wd hw 18 rfl)) (ty := (.array .int)) (by decide)
      have F_b88_arcs : Fld Z h88 b88 "com/example/hopwise/hopwise/paths/ArcChanges" "arcs" "[I" .null := D88 (Or.inr (Wd hw 20 rfl)) (ty := (.array .int)) (by decide)
      have F_b88_shortened : Fld Z h88 b88 "com/example/hopwise/hopwise/paths/ArcChanges" "shortened" "[I" .null := D88 (Or.inr (Wd hw 22 rfl)) (ty := (.array .int)) (by decide)
      have F_b88_lengthsBefore : Fld Z h88 b88 "com/example/hopwise/hopwise/paths/ArcChanges" "lengthsBefore" "[I" .null := D88 (Or.inr (Wd hw 24 rfl)) (ty := (.array .int)) (by decide)
      refine Own.dup X88 hx (pc := 303) (hb hby at_303) rfl ?_
      refine Own.iconst X88 hx (pc := 304) (0 : Int32) (hb hby at_304) (by decide) ?_
      refine Own.newarr X88 hx hZ (pc := 305) (aty := .int) (Wd hw 0 rfl) e88 (hb hby at_305) (by decide) 0 0 (by decide) (by decide) (by decide) (by decide) (by decide) ?_
      intro T89 h89 b89 g89 X89 e89 Ex89 V_b89
      have ne_b9_b89 : b9 ≠ b89 := Nat.ne_of_lt (g89 ▸ V_b9.lt)
      have ne_b72_b89 : b72 ≠ b89 := Nat.ne_of_lt (g89 ▸ V_b72.lt)
      have ne_b88_b89 : b88 ≠ b89 := Nat.ne_of_lt (g89 ▸ E_b88.lt)
      have V_b9 := V_b9.ext Ex89
      have V_b72 := V_b72.ext Ex89
      have E_b88 := Exa.ext Ex89 E_b88
      have F_b88_heads := Fld.ext Ex89 F_b88_heads
      have F_b88_starts := Fld.ext Ex89 F_b88_starts
      have F_b88_arcs := Fld.ext Ex89 F_b88_arcs
      have F_b88_shortened := Fld.ext Ex89 F_b88_shortened
      have F_b88_lengthsBefore := Fld.ext Ex89 F_b88_lengthsBefore
      have ge_b89 : n0 ≤ b89 := g89 ▸ sz88
      have sz89 : n0 ≤ h89.size := Nat.le_trans sz88 Ex89.1
      replace V_b89 : Own.VArr Z h89 b89 .int ([] : List Value) := V_b89
      refine Own.aload X89 hx (pc := 307) (hb hby at_307) rfl rfl ?_
      refine Own.bipush X89 hx (pc := 309) (8 : Int32) (hb hby at_309) (by decide) ?_
      refine Own.newarr X89 hx hZ (pc := 311) (aty := .int) (Wd hw 0 rfl) e89 (hb hby at_311) (by decide) 8 8 (by decide) (by decide) (by decide) (by decide) (by decide) ?_
      intro T90 h90 b90 g90 X90 e90 Ex90 V_b90
      have ne_b9_b90 : b9 ≠ b90 := Nat.ne_of_lt (g90 ▸ V_b9.lt)
      have ne_b72_b90 : b72 ≠ b90 := Nat.ne_of_lt (g90 ▸ V_b72.lt)
      have ne_b88_b90 : b88 ≠ b90 := Nat.ne_of_lt (g90 ▸ E_b88.lt)
      have ne_b89_b90 : b89 ≠ b90 := Nat.ne_of_lt (g90 ▸ V_b89.lt)
      have V_b9 := V_b9.ext Ex90
      have V_b72 := V_b72.ext Ex90
      have E_b88 := Exa.ext Ex90 E_b88
      have F_b88_heads := Fld.ext Ex90 F_b88_heads
      have F_b88_starts := Fld.ext Ex90 F_b88_starts
      have F_b88_arcs := Fld.ext Ex90 F_b88_arcs
      have F_b88_shortened := Fld.ext Ex90 F_b88_shortened
      have F_b88_lengthsBefore := Fld.ext Ex90 F_b88_lengthsBefore
      have V_b89 := V_b89.ext Ex90
      have ge_b90 : n0 ≤ b90 := g90 ▸ sz89
      have sz90 : n0 ≤ h90.size := Nat.le_trans sz89 Ex90.1
      replace V_b90 : Own.VArr Z h90 b90 .int [(.int (0 : Int32)), (.int (0 : Int32)), (.int (0 : Int32)), (.int (0 : Int32)), (.int (0 : Int32)), (.int (0 : Int32)), (.int (0 : Int32)), (.int (0 : Int32))] := V_b90
      refine Own.aload X90 hx (pc := 313) (hb hby at_313) rfl rfl ?_
      refine Own.iconst X90 hx (pc := 315) (4 : Int32) (hb hby at_315) (by decide) ?_
      refine Own.newarr X90 hx hZ (pc := 316) (aty := .int) (Wd hw 0 rfl) e90 (hb hby at_316) (by decide) 4 4 (by decide) (by decide) (by decide) (by decide) (by decide) ?_
      intro T91 h91 b91 g91 X91 e91 Ex91 V_b91
      have ne_b9_b91 : b9 ≠ b91 := Nat.ne_of_lt (g91 ▸ V_b9.lt)
      have ne_b72_b91 : b72 ≠ b91 := Nat.ne_of_lt (g91 ▸ V_b72.lt)
      have ne_b88_b91 : b88 ≠ b91 := Nat.ne_of_lt (g91 ▸ E_b88.lt)
      have ne_b89_b91 : b89 ≠ b91 := Nat.ne_of_lt (g91 ▸ V_b89.lt)
      have ne_b90_b91 : b90 ≠ b91 := Nat.ne_of_lt (g91 ▸ V_b90.lt)
      have V_b9 := V_b9.ext Ex91
      have V_b72 := V_b72.ext Ex91
      have E_b88 := Exa.ext Ex91 E_b88
      have F_b88_heads := Fld.ext Ex91 F_b88_heads
      have F_b88_starts := Fld.ext Ex91 F_b88_starts
      have F_b88_arcs := Fld.ext Ex91 F_b88_arcs
      have F_b88_shortened := Fld.ext Ex91 F_b88_shortened
      have F_b88_lengthsBefore := Fld.ext Ex91 F_b88_lengthsBefore
      have V_b89 := V_b89.ext Ex91
      have V_b90 := V_b90.ext Ex91
      have ge_b91 : n0 ≤ b91 := g91 ▸ sz90
      have sz91 : n0 ≤ h91.size := Nat.le_trans sz90 Ex91.1
      replace V_b91 : Own.VArr Z h91 b91 .int [(.int (0 : Int32)), (.int (0 : Int32)), (.int (0 : Int32)), (.int (0 : Int32))] := V_b91
      refine Own.callSpecial X91 hx hZ (pc := 318) (y := (⟨"com/example/hopwise/hopwise/paths/ArcChanges", "<init>", "([I[I[I[I[I)V"⟩ : MethodName)) rfl hown (Wd hw 4 rfl) (Wd hw 5 rfl) (Wd hw 3 rfl) (Wd hw 6 rfl) (by decide) 1 b88 [(.ref b89), (.ref b9), (.ref b90), (.ref b72), (.ref b91)] [(.ref b88)] (rm1 l Z a0 hw b88 b89 b9 b90 b72 b91 h91 n0 sz91 E_b88 F_b88_heads F_b88_starts F_b88_arcs F_b88_shortened F_b88_lengthsBefore ge_b88) (by decide) (by decide) e91 (by rw [hml]; rfl) pd4 rfl rfl (Nat.le_of_eq rfl) (hb hby at_318) (by decide) (by decide) ?_
      intro T92 L92 v92 X92 hQ92
      obtain ⟨rfl, Nq92, K92, F_b88_starts', F_b88_shortened'⟩ := hQ92
      have e92 : T92.heap = T92.heap := rfl
      have V_b9 := V_b9.keep K92 (ninS ne_b9_b88 nin0)
      have V_b72 := V_b72.keep K92 (ninS ne_b72_b88 nin0)
      have E_b88 := E_b88.keep K92
      have V_b89 := V_b89.keep K92 (ninS (Ne.symm ne_b88_b89) nin0)
      have V_b90 := V_b90.keep K92 (ninS (Ne.symm ne_b88_b90) nin0)
      have V_b91 := V_b91.keep K92 (ninS (Ne.symm ne_b88_b91) nin0)
      have sz92 : n0 ≤ T92.heap.size := Nat.le_trans sz91 K92.1
      have F_b88_starts := F_b88_starts'
      have F_b88_shortened := F_b88_shortened'
      have N92 := Fr.app N74 Nq92
      show Own.Go p e below _ (T92.setTop (mkF m 321 #[.val (.int a), .val (.int b), .val (.int c0), .val (.int s1), .val (.int s2), .val (.int s3), .val (.int s4), .val (.int s5), .val (.int s6), .val (.int s7), .val (.int s8), .val (.ref b9), .val (.int (2 : Int32)), .val (.int p19), .val (.int p20), .val (.int p21), .val (.int p22), .val (.ref b72), .val (.int nd87), .unset, .unset, .unset] [(.ref b88)]))
      refine Own.astore X92 hx (pc := 321) #[.val (.int a), .val (.int b), .val (.int c0), .val (.int s1), .val (.int s2), .val (.int s3), .val (.int s4), .val (.int s5), .val (.int s6), .val (.int s7), .val (.int s8), .val (.ref b9), .val (.int (2 : Int32)), .val (.int p19), .val (.int p20), .val (.int p21), .val (.int p22), .val (.ref b72), .val (.int nd87), .val (.ref b88), .unset, .unset] (hb hby at_321) rfl rfl ?_
      refine Own.aload X92 hx (pc := 323) (hb hby at_323) rfl rfl ?_
      refine Own.iload X92 hx (pc := 325) (hb hby at_325) rfl ?_
      refine Own.callVirtual X92 hx hZ (pc := 327) (y := (⟨"com/example/hopwise/hopwise/paths/ArcChanges", "firstShortenedOutOf", "(I)I"⟩ : MethodName)) (z := (⟨"com/example/hopwise/hopwise/paths/ArcChanges", "firstShortenedOutOf", "(I)I"⟩ : MethodName)) hown (Wd hw 25 rfl) (Wd hw 26 rfl) (Wd hw 28 rfl) (Wd hw 27 rfl) (Wd hw 3 rfl) (Wd hw 29 rfl) (Wd hw 28 rfl) (by decide) 0 b88 [(.int nd87)] [] E_b88 (rm4_2 l Z a0 hw b88 nd87 b9 b72 ([(.int s1), (.int s2), (.int s3), (.int s4), (.int s5), (.int s6), (.int s7), (.int s8)]) p19 p20 (if p19.toInt = 0 then s1 else s2) (if p20.toInt = 2 then s3 else s4) T92.heap n0 sz92 F_b88_starts F_b88_shortened V_b9 V_b72 (own_ge hp0 (by decide)) (own_pick (K := 0) hp0 rfl rfl) (own_ge hp1 (by decide)) (own_pick (K := 2) hp1 rfl rfl) (own_mono (by omega) (by omega) (by omega) (by omega))) (by decide) (by decide) e92 (by rw [hml]; rfl) pd5 rfl rfl (Nat.le_of_eq rfl) (hb hby at_327) (by decide) (by decide) ?_
      intro T93 L93 v93 X93 hQ93
      obtain ⟨rfl, Nq93, e93⟩ := hQ93
      have N93 := Fr.app N92 Nq93
      show Own.Go p e below _ (T93.setTop (mkF m 330 #[.val (.int a), .val (.int b), .val (.int c0), .val (.int s1), .val (.int s2), .val (.int s3), .val (.int s4), .val (.int s5), .val (.int s6), .val (.int s7), .val (.int s8), .val (.ref b9), .val (.int (2 : Int32)), .val (.int p19), .val (.int p20), .val (.int p21), .val (.int p22), .val (.ref b72), .val (.int nd87), .val (.ref b88), .unset, .unset] [(.int ((if (if p19.toInt = 0 then s1 else s2) < nd87 then (1 : Int32) else 0) + (if (if p20.toInt = 2 then s3 else s4) < nd87 then (1 : Int32) else 0)))]))
      refine Own.istore X93 hx (pc := 330) #[.val (.int a), .val (.int b), .val (.int c0), .val (.int s1), .val (.int s2), .val (.int s3), .val (.int s4), .val (.int s5), .val (.int s6), .val (.int s7), .val (.int s8), .val (.ref b9), .val (.int (2 : Int32)), .val (.int p19), .val (.int p20), .val (.int p21), .val (.int p22), .val (.ref b72), .val (.int nd87), .val (.ref b88), .val (.int ((if (if p19.toInt = 0 then s1 else s2) < nd87 then (1 : Int32) else 0) + (if (if p20.toInt = 2 then s3 else s4) < nd87 then (1 : Int32) else 0))), .unset] (hb hby at_330) rfl ?_
      refine Own.iload X93 hx (pc := 332) (hb hby at_332) rfl ?_
      refine Own.iconst X93 hx (pc := 334) (0 : Int32) (hb hby at_334) (by decide) ?_
      refine Own.aload X93 hx (pc := 335) (hb hby at_335) rfl rfl ?_
      refine Own.iload X93 hx (pc := 337) (hb hby at_337) rfl ?_
      refine Own.iaload X93 hx hZ (pc := 339) e93 V_b9 (v := (.int (if p19.toInt = 0 then s1 else s2))) p19.toNatClampNeg (own_ge hp0 (by decide)) rfl (own_pick (K := 0) hp0 rfl rfl) (hb hby at_339) ?_
      refine Own.iload X93 hx (pc := 340) (hb hby at_340) rfl ?_
      refine Own.callStatic X93 hx hZ (pc := 342) (y := (⟨"com/example/hopwise/hopwise/paths/ArcChangesFirstShortenedOutOfPinLaw", "below", "(IIII)I"⟩ : MethodName)) hown (Wd hw 30 rfl) (Wd hw 31 rfl) (Wd hw 32 rfl) (Wd hw 33 rfl) (by decide) 0 [(.int (2 : Int32)), (.int (0 : Int32)), (.int (if p19.toInt = 0 then s1 else s2)), (.int nd87)] [] (rm5 l Z a0 hw (2 : Int32) (0 : Int32) (if p19.toInt = 0 then s1 else s2) nd87 T92.heap n0 sz92 ) (by decide) (by decide) e93 (by rw [hml]; rfl) pd6 rfl rfl (Nat.le_of_eq rfl) (hb hby at_342) (by decide) (by decide) ?_
      intro T94 L94 v94 X94 hQ94
      obtain ⟨rfl, Nq94, e94⟩ := hQ94
      have N94 := Fr.app N93 Nq94
      show Own.Go p e below _ (T94.setTop (mkF m 345 #[.val (.int a), .val (.int b), .val (.int c0), .val (.int s1), .val (.int s2), .val (.int s3), .val (.int s4), .val (.int s5), .val (.int s6), .val (.int s7), .val (.int s8), .val (.ref b9), .val (.int (2 : Int32)), .val (.int p19), .val (.int p20), .val (.int p21), .val (.int p22), .val (.ref b72), .val (.int nd87), .val (.ref b88), .val (.int ((if (if p19.toInt = 0 then s1 else s2) < nd87 then (1 : Int32) else 0) + (if (if p20.toInt = 2 then s3 else s4) < nd87 then (1 : Int32) else 0))), .unset] [(.int (if ((0 : Int32) < (2 : Int32) ∧ (if p19.toInt = 0 then s1 else s2) < nd87) then (1 : Int32) else 0))]))
      refine Own.iload X94 hx (pc := 345) (hb hby at_345) rfl ?_
      refine Own.iconst X94 hx (pc := 347) (1 : Int32) (hb hby at_347) (by decide) ?_
      refine Own.aload X94 hx (pc := 348) (hb hby at_348) rfl rfl ?_
      refine Own.iload X94 hx (pc := 350) (hb hby at_350) rfl ?_
      refine Own.iaload X94 hx hZ (pc := 352) e94 V_b9 (v := (.int (if p20.toInt = 2 then s3 else s4))) p20.toNatClampNeg (own_ge hp1 (by decide)) rfl (own_pick (K := 2) hp1 rfl rfl) (hb hby at_352) ?_
      refine Own.iload X94 hx (pc := 353) (hb hby at_353) rfl ?_
      refine Own.callStatic X94 hx hZ (pc := 355) (y := (⟨"com/example/hopwise/hopwise/paths/ArcChangesFirstShortenedOutOfPinLaw", "below", "(IIII)I"⟩ : MethodName)) hown (Wd hw 30 rfl) (Wd hw 31 rfl) (Wd hw 32 rfl) (Wd hw 33 rfl) (by decide) 1 [(.int (2 : Int32)), (.int (1 : Int32)), (.int (if p20.toInt = 2 then s3 else s4)), (.int nd87)] [(.int (if ((0 : Int32) < (2 : Int32) ∧ (if p19.toInt = 0 then s1 else s2) < nd87) then (1 : Int32) else 0))] (rm5 l Z a0 hw (2 : Int32) (1 : Int32) (if p20.toInt = 2 then s3 else s4) nd87 T92.heap n0 sz92 ) (by decide) (by decide) e94 (by rw [hml]; rfl) pd6 rfl rfl (Nat.le_of_eq rfl) (hb hby at_355) (by decide) (by decide) ?_
      intro T95 L95 v95 X95 hQ95
      obtain ⟨rfl, Nq95, e95⟩ := hQ95
      have N95 := Fr.app N94 Nq95
      show Own.Go p e below _ (T95.setTop (mkF m 358 #[.val (.int a), .val (.int b), .val (.int c0), .val (.int s1), .val (.int s2), .val (.int s3), .val (.int s4), .val (.int s5), .val (.int s6), .val (.int s7), .val (.int s8), .val (.ref b9), .val (.int (2 : Int32)), .val (.int p19), .val (.int p20), .val (.int p21), .val (.int p22), .val (.ref b72), .val (.int nd87), .val (.ref b88), .val (.int ((if (if p19.toInt = 0 then s1 else s2) < nd87 then (1 : Int32) else 0) + (if (if p20.toInt = 2 then s3 else s4) < nd87 then (1 : Int32) else 0))), .unset] [(.int (if ((1 : Int32) < (2 : Int32) ∧ (if p20.toInt = 2 then s3 else s4) < nd87) then (1 : Int32) else 0)), (.int (if ((0 : Int32) < (2 : Int32) ∧ (if p19.toInt = 0 then s1 else s2) < nd87) then (1 : Int32) else 0))]))
      refine Own.iadd X95 hx (pc := 358) (hb hby at_358) ?_
      refine Own.iload X95 hx (pc := 359) (hb hby at_359) rfl ?_
      refine Own.iconst X95 hx (pc := 361) (2 : Int32) (hb hby at_361) (by decide) ?_
      refine Own.aload X95 hx (pc := 362) (hb hby at_362) rfl rfl ?_
      refine Own.iload X95 hx (pc := 364) (hb hby at_364) rfl ?_
      refine Own.iaload X95 hx hZ (pc := 366) e95 V_b9 (v := (.int (if p21.toInt = 4 then s5 else s6))) p21.toNatClampNeg (own_ge hp2 (by decide)) rfl (own_pick (K := 4) hp2 rfl rfl) (hb hby at_366) ?_
      refine Own.iload X95 hx (pc := 367) (hb hby at_367) rfl ?_
      refine Own.callStatic X95 hx hZ (pc := 369) (y := (⟨"com/example/hopwise/hopwise/paths/ArcChangesFirstShortenedOutOfPinLaw", "below", "(IIII)I"⟩ : MethodName)) hown (Wd hw 30 rfl) (Wd hw 31 rfl) (Wd hw 32 rfl) (Wd hw 33 rfl) (by decide) 1 [(.int (2 : Int32)), (.int (2 : Int32)), (.int (if p21.toInt = 4 then s5 else s6)), (.int nd87)] [(.int ((if ((0 : Int32) < (2 : Int32) ∧ (if p19.toInt = 0 then s1 else s2) < nd87) then (1 : Int32) else 0) + (if ((1 : Int32) < (2 : Int32) ∧ (if p20.toInt = 2 then s3 else s4) < nd87) then (1 : Int32) else 0)))] (rm5 l Z a0 hw (2 : Int32) (2 : Int32) (if p21.toInt = 4 then s5 else s6) nd87 T92.heap n0 sz92 ) (by decide) (by decide) e95 (by rw [hml]; rfl) pd6 rfl rfl (Nat.le_of_eq rfl) (hb hby at_369) (by decide) (by decide) ?_
      intro T96 L96 v96 X96 hQ96
      obtain ⟨rfl, Nq96, e96⟩ := hQ96
      have N96 := Fr.app N95 Nq96
      show Own.Go p e below _ (T96.setTop (mkF m 372 #[.val (.int a), .val (.int b), .val (.int c0), .val (.int s1), .val (.int s2), .val (.int s3), .val (.int s4), .val (.int s5), .val (.int s6), .val (.int s7), .val (.int s8), .val (.ref b9), .val (.int (2 : Int32)), .val (.int p19), .val (.int p20), .val (.int p21), .val (.int p22), .val (.ref b72), .val (.int nd87), .val (.ref b88), .val (.int ((if (if p19.toInt = 0 then s1 else s2) < nd87 then (1 : Int32) else 0) + (if (if p20.toInt = 2 then s3 else s4) < nd87 then (1 : Int32) else 0))), .unset] [(.int (if ((2 : Int32) < (2 : Int32) ∧ (if p21.toInt = 4 then s5 else s6) < nd87) then (1 : Int32) else 0)), (.int ((if ((0 : Int32) < (2 : Int32) ∧ (if p19.toInt = 0 then s1 else s2) < nd87) then (1 : Int32) else 0) + (if ((1 : Int32) < (2 : Int32) ∧ (if p20.toInt = 2 then s3 else s4) < nd87) then (1 : Int32) else 0)))]))
      refine Own.iadd X96 hx (pc := 372) (hb hby at_372) ?_
      refine Own.iload X96 hx (pc := 373) (hb hby at_373) rfl ?_
      refine Own.iconst X96 hx (pc := 375) (3 : Int32) (hb hby at_375) (by decide) ?_
      refine Own.aload X96 hx (pc := 376) (hb hby at_376) rfl rfl ?_
      refine Own.iload X96 hx (pc := 378) (hb hby at_378) rfl ?_
      refine Own.iaload X96 hx hZ (pc := 380) e96 V_b9 (v := (.int (if p22.toInt = 6 then s7 else s8))) p22.toNatClampNeg (own_ge hp3 (by decide)) rfl (own_pick (K := 6) hp3 rfl rfl) (hb hby at_380) ?_
      refine Own.iload X96 hx (pc := 381) (hb hby at_381) rfl ?_
      refine Own.callStatic X96 hx hZ (pc := 383) (y := (⟨"com/example/hopwise/hopwise/paths/ArcChangesFirstShortenedOutOfPinLaw", "below", "(IIII)I"⟩ : MethodName)) hown (Wd hw 30 rfl) (Wd hw 31 rfl) (Wd hw 32 rfl) (Wd hw 33 rfl) (by decide) 1 [(.int (2 : Int32)), (.int (3 : Int32)), (.int (if p22.toInt = 6 then s7 else s8)), (.int nd87)] [(.int (((if ((0 : Int32) < (2 : Int32) ∧ (if p19.toInt = 0 then s1 else s2) < nd87) then (1 : Int32) else 0) + (if ((1 : Int32) < (2 : Int32) ∧ (if p20.toInt = 2 then s3 else s4) < nd87) then (1 : Int32) else 0)) + (if ((2 : Int32) < (2 : Int32) ∧ (if p21.toInt = 4 then s5 else s6) < nd87) then (1 : Int32) else 0)))] (rm5 l Z a0 hw (2 : Int32) (3 : Int32) (if p22.toInt = 6 then s7 else s8) nd87 T92.heap n0 sz92 ) (by decide) (by decide) e96 (by rw [hml]; rfl) pd6 rfl rfl (Nat.le_of_eq rfl) (hb hby at_383) (by decide) (by decide) ?_
      intro T97 L97 v97 X97 hQ97
      obtain ⟨rfl, Nq97, e97⟩ := hQ97
      have N97 := Fr.app N96 Nq97
      show Own.Go p e below _ (T97.setTop (mkF m 386 #[.val (.int a), .val (.int b), .val (.int c0), .val (.int s1), .val (.int s2), .val (.int s3), .val (.int s4), .val (.int s5), .val (.int s6), .val (.int s7), .val (.int s8), .val (.ref b9), .val (.int (2 : Int32)), .val (.int p19), .val (.int p20), .val (.int p21), .val (.int p22), .val (.ref b72), .val (.int nd87), .val (.ref b88), .val (.int ((if (if p19.toInt = 0 then s1 else s2) < nd87 then (1 : Int32) else 0) + (if (if p20.toInt = 2 then s3 else s4) < nd87 then (1 : Int32) else 0))), .unset] [(.int (if ((3 : Int32) < (2 : Int32) ∧ (if p22.toInt = 6 then s7 else s8) < nd87) then (1 : Int32) else 0)), (.int (((if ((0 : Int32) < (2 : Int32) ∧ (if p19.toInt = 0 then s1 else s2) < nd87) then (1 : Int32) else 0) + (if ((1 : Int32) < (2 : Int32) ∧ (if p20.toInt = 2 then s3 else s4) < nd87) then (1 : Int32) else 0)) + (if ((2 : Int32) < (2 : Int32) ∧ (if p21.toInt = 4 then s5 else s6) < nd87) then (1 : Int32) else 0)))]))
      refine Own.iadd X97 hx (pc := 386) (hb hby at_386) ?_
      refine Own.istore X97 hx (pc := 387) #[.val (.int a), .val (.int b), .val (.int c0), .val (.int s1), .val (.int s2), .val (.int s3), .val (.int s4), .val (.int s5), .val (.int s6), .val (.int s7), .val (.int s8), .val (.ref b9), .val (.int (2 : Int32)), .val (.int p19), .val (.int p20), .val (.int p21), .val (.int p22), .val (.ref b72), .val (.int nd87), .val (.ref b88), .val (.int ((if (if p19.toInt = 0 then s1 else s2) < nd87 then (1 : Int32) else 0) + (if (if p20.toInt = 2 then s3 else s4) < nd87 then (1 : Int32) else 0))), .val (.int ((((if ((0 : Int32) < (2 : Int32) ∧ (if p19.toInt = 0 then s1 else s2) < nd87) then (1 : Int32) else 0) + (if ((1 : Int32) < (2 : Int32) ∧ (if p20.toInt = 2 then s3 else s4) < nd87) then (1 : Int32) else 0)) + (if ((2 : Int32) < (2 : Int32) ∧ (if p21.toInt = 4 then s5 else s6) < nd87) then (1 : Int32) else 0)) + (if ((3 : Int32) < (2 : Int32) ∧ (if p22.toInt = 6 then s7 else s8) < nd87) then (1 : Int32) else 0)))] (hb hby at_387) rfl ?_
      refine Own.iload X97 hx (pc := 389) (hb hby at_389) rfl ?_
      refine Own.iload X97 hx (pc := 391) (hb hby at_391) rfl ?_
      refine Own.icmpNo X97 hx (pc := 393) (hb hby at_393) (XT.ii_ne_f (by simp)) ?_
      refine Own.iconst X97 hx (pc := 396) (1 : Int32) (hb hby at_396) (by decide) ?_
      refine Own.goto X97 hx (pc := 397) 401 (hb hby at_397) (by decide) (by decide) ?_
      exact Own.ireturn X97 hx hk hret (by simp) rfl (hb hby at_401) e97 ⟨rfl, N97⟩ (by decide) (by decide)
  · refine Own.iload X17 hx (pc := 170) (hb hby at_170) rfl ?_
    refine Own.ifYes X17 hx (pc := 172) 183 (hb hby at_172) (by decide) (by decide) (by decide) ?_
    refine Own.iload X17 hx (pc := 183) (hb hby at_183) rfl ?_
    refine Own.iconst X17 hx (pc := 185) (1 : Int32) (hb hby at_185) (by decide) ?_
    refine Own.icmpYes X17 hx (pc := 186) 202 (hb hby at_186) (by decide) (by decide) (by decide) ?_
    refine Own.iload X17 hx (pc := 202) (hb hby at_202) rfl ?_
    refine Own.iconst X17 hx (pc := 204) (2 : Int32) (hb hby at_204) (by decide) ?_
    refine Own.icmpYes X17 hx (pc := 205) 226 (hb hby at_205) (by decide) (by decide) (by decide) ?_
    refine Own.iload X17 hx (pc := 226) (hb hby at_226) rfl ?_
    refine Own.iconst X17 hx (pc := 228) (3 : Int32) (hb hby at_228) (by decide) ?_
    refine Own.icmpNo X17 hx (pc := 229) (hb hby at_229) (by decide) ?_
    refine Own.iconst X17 hx (pc := 232) (3 : Int32) (hb hby at_232) (by decide) ?_
    refine Own.newarr X17 hx hZ (pc := 233) (aty := .int) (Wd hw 0 rfl) e17 (hb hby at_233) (by decide) 3 3 (by decide) (by decide) (by decide) (by decide) (by decide) ?_
    intro T98 h98 b98 g98 X98 e98 Ex98 V_b98
    have ne_b9_b98 : b9 ≠ b98 := Nat.ne_of_lt (g98 ▸ V_b9.lt)
    have V_b9 := V_b9.ext Ex98
    have ge_b98 : n0 ≤ b98 := g98 ▸ sz17
    have sz98 : n0 ≤ h98.size := Nat.le_trans sz17 Ex98.1
    replace V_b98 : Own.VArr Z h98 b98 .int [(.int (0 : Int32)), (.int (0 : Int32)), (.int (0 : Int32))] := V_b98
    refine Own.dup X98 hx (pc := 235) (hb hby at_235) rfl ?_
    refine Own.iconst X98 hx (pc := 236) (0 : Int32) (hb hby at_236) (by decide) ?_
    refine Own.iload X98 hx (pc := 237) (hb hby at_237) rfl ?_
    refine Own.iastore X98 hx hZ (pc := 239) e98 V_b98 0 (by decide) (by decide) (of_decide_eq_true rfl) N17 ge_b98 (hb hby at_239) ?_
    intro T99 h99 X99 e99 W99 N99 V_b98
    replace V_b98 : Own.VArr Z h99 b98 .int [(.int p19), (.int (0 : Int32)), (.int (0 : Int32))] := V_b98
    have sz99 : n0 ≤ h99.size := Nat.le_trans sz98 (Nat.le_of_eq (Wr.size W99).symm)
    have V_b9 := V_b9.other W99 ne_b9_b98
    refine Own.dup X99 hx (pc := 240) (hb hby at_240) rfl ?_
    refine Own.iconst X99 hx (pc := 241) (1 : Int32) (hb hby at_241) (by decide) ?_
    refine Own.iload X99 hx (pc := 242) (hb hby at_242) rfl ?_
    refine Own.iastore X99 hx hZ (pc := 244) e99 V_b98 1 (by decide) (by decide) (of_decide_eq_true rfl) N99 ge_b98 (hb hby at_244) ?_
    intro T100 h100 X100 e100 W100 N100 V_b98
    replace V_b98 : Own.VArr Z h100 b98 .int [(.int p19), (.int p20), (.int (0 : Int32))] := V_b98
    have sz100 : n0 ≤ h100.size := Nat.le_trans sz99 (Nat.le_of_eq (Wr.size W100).symm)
    have V_b9 := V_b9.other W100 ne_b9_b98
    refine Own.dup X100 hx (pc := 245) (hb hby at_245) rfl ?_
    refine Own.iconst X100 hx (pc := 246) (2 : Int32) (hb hby at_246) (by decide) ?_
    refine Own.iload X100 hx (pc := 247) (hb hby at_247) rfl ?_
    refine Own.iastore X100 hx hZ (pc := 249) e100 V_b98 2 (by decide) (by decide) (of_decide_eq_true rfl) N100 ge_b98 (hb hby at_249) ?_
    intro T101 h101 X101 e101 W101 N101 V_b98
    replace V_b98 : Own.VArr Z h101 b98 .int [(.int p19), (.int p20), (.int p21)] := V_b98
    have sz101 : n0 ≤ h101.size := Nat.le_trans sz100 (Nat.le_of_eq (Wr.size W101).symm)
    have V_b9 := V_b9.other W101 ne_b9_b98
    refine Own.astore X101 hx (pc := 250) #[.val (.int a), .val (.int b), .val (.int c0), .val (.int s1), .val (.int s2), .val (.int s3), .val (.int s4), .val (.int s5), .val (.int s6), .val (.int s7), .val (.int s8), .val (.ref b9), .val (.int (3 : Int32)), .val (.int p19), .val (.int p20), .val (.int p21), .val (.int p22), .val (.ref b98), .unset, .unset, .unset, .unset] (hb hby at_250) rfl rfl ?_
    refine Own.goto X101 hx (pc := 252) 280 (hb hby at_252) (by decide) (by decide) ?_
    refine Own.iloadN X101 hx (pc := 280) (hb hby at_280) rfl ?_
    refine Own.iconst X101 hx (pc := 281) (1 : Int32) (hb hby at_281) (by decide) ?_
    refine Own.iand X101 hx (pc := 282) (hb hby at_282) ?_
    by_cases c102 : (c0 &&& (1 : Int32)) = (0 : Int32)
    · refine Own.ifYes X101 hx (pc := 283) 292 (hb hby at_283) (XT.i0_eq_t c102) (by decide) (by decide) ?_
      refine Own.iloadN X101 hx (pc := 292) (hb hby at_292) rfl ?_
      refine Own.iconst X101 hx (pc := 293) (1 : Int32) (hb hby at_293) (by decide) ?_
      refine Own.iushr X101 hx (pc := 294) (hb hby at_294) ?_
      refine Own.bipush X101 hx (pc := 295) (31 : Int32) (hb hby at_295) (by decide) ?_
      refine Own.iand X101 hx (pc := 297) (hb hby at_297) ?_
      generalize qnd103 : ((XT.ushr c0 (1 : Int32)) &&& (31 : Int32)) = nd103
      refine Own.istore X101 hx (pc := 298) #[.val (.int a), .val (.int b), .val (.int c0), .val (.int s1), .val (.int s2), .val (.int s3), .val (.int s4), .val (.int s5), .val (.int s6), .val (.int s7), .val (.int s8), .val (.ref b9), .val (.int (3 : Int32)), .val (.int p19), .val (.int p20), .val (.int p21), .val (.int p22), .val (.ref b98), .val (.int nd103), .unset, .unset, .unset] (hb hby at_298) rfl ?_
      refine Own.newobj X101 hx hZ (pc := 300) hown (Wd hw 1 rfl) (Wd hw 2 rfl) (Wd hw 3 rfl) e101 (hb hby at_300) (by decide) (by decide) ?_
      intro T104 h104 b104 g104 X104 e104 Ex104 E_b104 D104
      have ne_b9_b104 : b9 ≠ b104 := Nat.ne_of_lt (g104 ▸ V_b9.lt)
      have ne_b98_b104 : b98 ≠ b104 := Nat.ne_of_lt (g104 ▸ V_b98.lt)
      have V_b9 := V_b9.ext Ex104
      have V_b98 := V_b98.ext Ex104
      have ge_b104 : n0 ≤ b104 := g104 ▸ sz101
      have sz104 : n0 ≤ h104.size := Nat.le_trans sz101 Ex104.1
      have F_b104_heads : Fld Z h104 b104 "com/example/hopwise/hopwise/paths/ArcChanges" "heads" "[I" .null := D104 (Or.inr (Wd hw 16 rfl)) (ty := (.array .int)) (by decide)
      have F_b104_starts : Fld Z h104 b104 "com/example/hopwise/hopwise/paths/ArcChanges" "starts" "[I" .null := D104 (Or.inr (Wd hw 18 rfl)) (ty := (.array .int)) (by decide)
      have F_b104_arcs : Fld Z h104 b104 "com/example/hopwise/hopwise/paths/ArcChanges" "arcs" "[I" .null := D104 (Or.inr (Wd hw 20 rfl)) (ty := (.array .int)) (by decide)
      have F_b104_shortened : Fld Z h104 b104 "com/example/hopwise/hopwise/paths/ArcChanges" "shortened" "[I" .null := D104 (Or.inr (Wd hw 22 rfl)) (ty := (.array .int)) (by decide)
      have F_b104_lengthsBefore : Fld Z h104 b104 "com/example/hopwise/hopwise/paths/ArcChanges" "lengthsBefore" "[I" .null := D104 (Or.inr (Wd hw 24 rfl)) (ty := (.array .int)) (by decide)
      refine Own.dup X104 hx (pc := 303) (hb hby at_303) rfl ?_
      refine Own.iconst X104 hx (pc := 304) (0 : Int32) (hb hby at_304) (by decide) ?_
      refine Own.newarr X104 hx hZ (pc := 305) (aty := .int) (Wd hw 0 rfl) e104 (hb hby at_305) (by decide) 0 0 (by decide) (by decide) (by decide) (by decide) (by decide) ?_
      intro T105 h105 b105 g105 X105 e105 Ex105 V_b105
      have ne_b9_b105 : b9 ≠ b105 := Nat.ne_of_lt (g105 ▸ V_b9.lt)
      have ne_b98_b105 : b98 ≠ b105 := Nat.ne_of_lt (g105 ▸ V_b98.lt)
      have ne_b104_b105 : b104 ≠ b105 := Nat.ne_of_lt (g105 ▸ E_b104.lt)
      have V_b9 := V_b9.ext Ex105
      have V_b98 := V_b98.ext Ex105
      have E_b104 := Exa.ext Ex105 E_b104
      have F_b104_heads := Fld.ext Ex105 F_b104_heads
      have F_b104_starts := Fld.ext Ex105 F_b104_starts
      have F_b104_arcs := Fld.ext Ex105 F_b104_arcs
      have F_b104_shortened := Fld.ext Ex105 F_b104_shortened
      have F_b104_lengthsBefore := Fld.ext Ex105 F_b104_lengthsBefore
      have ge_b105 : n0 ≤ b105 := g105 ▸ sz104
      have sz105 : n0 ≤ h105.size := Nat.le_trans sz104 Ex105.1
      replace V_b105 : Own.VArr Z h105 b105 .int ([] : List Value) := V_b105
      refine Own.aload X105 hx (pc := 307) (hb hby at_307) rfl rfl ?_
      refine Own.bipush X105 hx (pc := 309) (8 : Int32) (hb hby at_309) (by decide) ?_
      refine Own.newarr X105 hx hZ (pc := 311) (aty := .int) (Wd hw 0 rfl) e105 (hb hby at_311) (by decide) 8 8 (by decide) (by decide) (by decide) (by decide) (by decide) ?_
      intro T106 h106 b106 g106 X106 e106 Ex106 V_b106
      have ne_b9_b106 : b9 ≠ b106 := Nat.ne_of_lt (g106 ▸ V_b9.lt)
      have ne_b98_b106 : b98 ≠ b106 := Nat.ne_of_lt (g106 ▸ V_b98.lt)
      have ne_b104_b106 : b104 ≠ b106 := Nat.ne_of_lt (g106 ▸ E_b104.lt)
      have ne_b105_b106 : b105 ≠ b106 := Nat.ne_of_lt (g106 ▸ V_b105.lt)
      have V_b9 := V_b9.ext Ex106
      have V_b98 := V_b98.ext Ex106
      have E_b104 := Exa.ext Ex106 E_b104
      have F_b104_heads := Fld.ext Ex106 F_b104_heads
      have F_b104_starts := Fld.ext Ex106 F_b104_starts
      have F_b104_arcs := Fld.ext Ex106 F_b104_arcs
      have F_b104_shortened := Fld.ext Ex106 F_b104_shortened
      have F_b104_lengthsBefore := Fld.ext Ex106 F_b104_lengthsBefore
      have V_b105 := V_b105.ext Ex106
      have ge_b106 : n0 ≤ b106 := g106 ▸ sz105
      have sz106 : n0 ≤ h106.size := Nat.le_trans sz105 Ex106.1
      replace V_b106 : Own.VArr Z h106 b106 .int [(.int (0 : Int32)), (.int (0 : Int32)), (.int (0 : Int32)), (.int (0 : Int32)), (.int (0 : Int32)), (.int (0 : Int32)), (.int (0 : Int32)), (.int (0 : Int32))] := V_b106
      refine Own.aload X106 hx (pc := 313) (hb hby at_313) rfl rfl ?_
      refine Own.iconst X106 hx (pc := 315) (4 : Int32) (hb hby at_315) (by decide) ?_
      refine Own.newarr X106 hx hZ (pc := 316) (aty := .int) (Wd hw 0 rfl) e106 (hb hby at_316) (by decide) 4 4 (by decide) (by decide) (by decide) (by decide) (by decide) ?_
      intro T107 h107 b107 g107 X107 e107 Ex107 V_b107
      have ne_b9_b107 : b9 ≠ b107 := Nat.ne_of_lt (g107 ▸ V_b9.lt)
      have ne_b98_b107 : b98 ≠ b107 := Nat.ne_of_lt (g107 ▸ V_b98.lt)
      have ne_b104_b107 : b104 ≠ b107 := Nat.ne_of_lt (g107 ▸ E_b104.lt)
      have ne_b105_b107 : b105 ≠ b107 := Nat.ne_of_lt (g107 ▸ V_b105.lt)
      have ne_b106_b107 : b106 ≠ b107 := Nat.ne_of_lt (g107 ▸ V_b106.lt)
      have V_b9 := V_b9.ext Ex107
      have V_b98 := V_b98.ext Ex107
      have E_b104 := Exa.ext Ex107 E_b104
      have F_b104_heads := Fld.ext Ex107 F_b104_heads
      have F_b104_starts := Fld.ext Ex107 F_b104_starts
      have F_b104_arcs := Fld.ext Ex107 F_b104_arcs
      have F_b104_shortened := Fld.ext Ex107 F_b104_shortened
      have F_b104_lengthsBefore := Fld.ext Ex107 F_b104_lengthsBefore
      have V_b105 := V_b105.ext Ex107
      have V_b106 := V_b106.ext Ex107
      have ge_b107 : n0 ≤ b107 := g107 ▸ sz106
      have sz107 : n0 ≤ h107.size := Nat.le_trans sz106 Ex107.1
      replace V_b107 : Own.VArr Z h107 b107 .int [(.int (0 : Int32)), (.int (0 : Int32)), (.int (0 : Int32)), (.int (0 : Int32))] := V_b107
      refine Own.callSpecial X107 hx hZ (pc := 318) (y := (⟨"com/example/hopwise/hopwise/paths/ArcChanges", "<init>", "([I[I[I[I[I)V"⟩ : MethodName)) rfl hown (Wd hw 4 rfl) (Wd hw 5 rfl) (Wd hw 3 rfl) (Wd hw 6 rfl) (by decide) 1 b104 [(.ref b105), (.ref b9), (.ref b106), (.ref b98), (.ref b107)] [(.ref b104)] (rm1 l Z a0 hw b104 b105 b9 b106 b98 b107 h107 n0 sz107 E_b104 F_b104_heads F_b104_starts F_b104_arcs F_b104_shortened F_b104_lengthsBefore ge_b104) (by decide) (by decide) e107 (by rw [hml]; rfl) pd4 rfl rfl (Nat.le_of_eq rfl) (hb hby at_318) (by decide) (by decide) ?_
      intro T108 L108 v108 X108 hQ108
      obtain ⟨rfl, Nq108, K108, F_b104_starts', F_b104_shortened'⟩ := hQ108
      have e108 : T108.heap = T108.heap := rfl
      have V_b9 := V_b9.keep K108 (ninS ne_b9_b104 nin0)
      have V_b98 := V_b98.keep K108 (ninS ne_b98_b104 nin0)
      have E_b104 := E_b104.keep K108
      have V_b105 := V_b105.keep K108 (ninS (Ne.symm ne_b104_b105) nin0)
      have V_b106 := V_b106.keep K108 (ninS (Ne.symm ne_b104_b106) nin0)
      have V_b107 := V_b107.keep K108 (ninS (Ne.symm ne_b104_b107) nin0)
      have sz108 : n0 ≤ T108.heap.size := Nat.le_trans sz107 K108.1
      have F_b104_starts := F_b104_starts'
      have F_b104_shortened := F_b104_shortened'
      have N108 := Fr.app N101 Nq108
      show Own.Go p e below _ (T108.setTop (mkF m 321 #[.val (.int a), .val (.int b), .val (.int c0), .val (.int s1), .val (.int s2), .val (.int s3), .val (.int s4), .val (.int s5), .val (.int s6), .val (.int s7), .val (.int s8), .val (.ref b9), .val (.int (3 : Int32)), .val (.int p19), .val (.int p20), .val (.int p21), .val (.int p22), .val (.ref b98), .val (.int nd103), .unset, .unset, .unset] [(.ref b104)]))
      refine Own.astore X108 hx (pc := 321) #[.val (.int a), .val (.int b), .val (.int c0), .val (.int s1), .val (.int s2), .val (.int s3), .val (.int s4), .val (.int s5), .val (.int s6), .val (.int s7), .val (.int s8), .val (.ref b9), .val (.int (3 : Int32)), .val (.int p19), .val (.int p20), .val (.int p21), .val (.int p22), .val (.ref b98), .val (.int nd103), .val (.ref b104), .unset, .unset] (hb hby at_321) rfl rfl ?_
      refine Own.aload X108 hx (pc := 323) (hb hby at_323) rfl rfl ?_
      refine Own.iload X108 hx (pc := 325) (hb hby at_325) rfl ?_
      refine Own.callVirtual X108 hx hZ (pc := 327) (y := (⟨"com/example/hopwise/hopwise/paths/ArcChanges", "firstShortenedOutOf", "(I)I"⟩ : MethodName)) (z := (⟨"com/example/hopwise/hopwise/paths/ArcChanges", "firstShortenedOutOf", "(I)I"⟩ : MethodName)) hown (Wd hw 25 rfl) (Wd hw 26 rfl) (Wd hw 28 rfl) (Wd hw 27 rfl) (Wd hw 3 rfl) (Wd hw 29 rfl) (Wd hw 28 rfl) (by decide) 0 b104 [(.int nd103)] [] E_b104 (rm4_3 l Z a0 hw b104 nd103 b9 b98 ([(.int s1), (.int s2), (.int s3), (.int s4), (.int s5), (.int s6), (.int s7), (.int s8)]) p19 p20 p21 (if p19.toInt = 0 then s1 else s2) (if p20.toInt = 2 then s3 else s4) (if p21.toInt = 4 then s5 else s6) T108.heap n0 sz108 F_b104_starts F_b104_shortened V_b9 V_b98 (own_ge hp0 (by decide)) (own_pick (K := 0) hp0 rfl rfl) (own_ge hp1 (by decide)) (own_pick (K := 2) hp1 rfl rfl) (own_ge hp2 (by decide)) (own_pick (K := 4) hp2 rfl rfl) (own_mono (by omega) (by omega) (by omega) (by omega)) (own_mono (by omega) (by omega) (by omega) (by omega)) (own_mono (by omega) (by omega) (by omega) (by omega))) (by decide) (by decide) e108 (by rw [hml]; rfl) pd5 rfl rfl (Nat.le_of_eq rfl) (hb hby at_327) (by decide) (by decide) ?_
      intro T109 L109 v109 X109 hQ109
      obtain ⟨rfl, Nq109, e109⟩ := hQ109
      have N109 := Fr.app N108 Nq109
      show Own.Go p e below _ (T109.setTop (mkF m 330 #[.val (.int a), .val (.int b), .val (.int c0), .val (.int s1), .val (.int s2), .val (.int s3), .val (.int s4), .val (.int s5), .val (.int s6), .val (.int s7), .val (.int s8), .val (.ref b9), .val (.int (3 : Int32)), .val (.int p19), .val (.int p20), .val (.int p21), .val (.int p22), .val (.ref b98), .val (.int nd103), .val (.ref b104), .unset, .unset] [(.int (((if (if p19.toInt = 0 then s1 else s2) < nd103 then (1 : Int32) else 0) + (if (if p20.toInt = 2 then s3 else s4) < nd103 then (1 : Int32) else 0)) + (if (if p21.toInt = 4 then s5 else s6) < nd103 then (1 : Int32) else 0)))]))
      refine Own.istore X109 hx (pc := 330) #[.val (.int a), .val (.int b), .val (.int c0), .val (.int s1), .val (.int s2), .val (.int s3), .val (.int s4), .val (.int s5), .val (.int s6), .val (.int s7), .val (.int s8), .val (.ref b9), .val (.int (3 : Int32)), .val (.int p19), .val (.int p20), .val (.int p21), .val (.int p22), .val (.ref b98), .val (.int nd103), .val (.ref b104), .val (.int (((if (if p19.toInt = 0 then s1 else s2) < nd103 then (1 : Int32) else 0) + (if (if p20.toInt = 2 then s3 else s4) < nd103 then (1 : Int32) else 0)) + (if (if p21.toInt = 4 then s5 else s6) < nd103 then (1 : Int32) else 0))), .unset] (hb hby at_330) rfl ?_
      refine Own.iload X109 hx (pc := 332) (hb hby at_332) rfl ?_
      refine Own.iconst X109 hx (pc := 334) (0 : Int32) (hb hby at_334) (by decide) ?_
      refine Own.aload X109 hx (pc := 335) (hb hby at_335) rfl rfl ?_
      refine Own.iload X109 hx (pc := 337) (hb hby at_337) rfl ?_
      refine Own.iaload X109 hx hZ (pc := 339) e109 V_b9 (v := (.int (if p19.toInt = 0 then s1 else s2))) p19.toNatClampNeg (own_ge hp0 (by decide)) rfl (own_pick (K := 0) hp0 rfl rfl) (hb hby at_339) ?_
      refine Own.iload X109 hx (pc := 340) (hb hby at_340) rfl ?_
      refine Own.callStatic X109 hx hZ (pc := 342) (y := (⟨"com/example/hopwise/hopwise/paths/ArcChangesFirstShortenedOutOfPinLaw", "below", "(IIII)I"⟩ : MethodName)) hown (Wd hw 30 rfl) (Wd hw 31 rfl) (Wd hw 32 rfl) (Wd hw 33 rfl) (by decide) 0 [(.int (3 : Int32)), (.int (0 : Int32)), (.int (if p19.toInt = 0 then s1 else s2)), (.int nd103)] [] (rm5 l Z a0 hw (3 : Int32) (0 : Int32) (if p19.toInt = 0 then s1 else s2) nd103 T108.heap n0 sz108 ) (by decide) (by decide) e109 (by rw [hml]; rfl) pd6 rfl rfl (Nat.le_of_eq rfl) (hb hby at_342) (by decide) (by decide) ?_
      intro T110 L110 v110 X110 hQ110
      obtain ⟨rfl, Nq110, e110⟩ := hQ110
      have N110 := Fr.app N109 Nq110
      show Own.Go p e below _ (T110.setTop (mkF m 345 #[.val (.int a), .val (.int b), .val (.int c0), .val (.int s1), .val (.int s2), .val (.int s3), .val (.int s4), .val (.int s5), .val (.int s6), .val (.int s7), .val (.int s8), .val (.ref b9), .val (.int (3 : Int32)), .val (.int p19), .val (.int p20), .val (.int p21), .val (.int p22), .val (.ref b98), .val (.int nd103), .val (.ref b104), .val (.int (((if (if p19.toInt = 0 then s1 else s2) < nd103 then (1 : Int32) else 0) + (if (if p20.toInt = 2 then s3 else s4) < nd103 then (1 : Int32) else 0)) + (if (if p21.toInt = 4 then s5 else s6) < nd103 then (1 : Int32) else 0))), .unset] [(.int (if ((0 : Int32) < (3 : Int32) ∧ (if p19.toInt = 0 then s1 else s2) < nd103) then (1 : Int32) else 0))]))
      refine Own.iload X110 hx (pc := 345) (hb hby at_345) rfl ?_
      refine Own.iconst X110 hx (pc := 347) (1 : Int32) (hb hby at_347) (by decide) ?_
      refine Own.aload X110 hx (pc := 348) (hb hby at_348) rfl rfl ?_
      refine Own.iload X110 hx (pc := 350) (hb hby at_350) rfl ?_
      refine Own.iaload X110 hx hZ (pc := 352) e110 V_b9 (v := (.int (if p20.toInt = 2 then s3 else s4))) p20.toNatClampNeg (own_ge hp1 (by decide)) rfl (own_pick (K := 2) hp1 rfl rfl) (hb hby at_352) ?_
      refine Own.iload X110 hx (pc := 353) (hb hby at_353) rfl ?_
      refine Own.callStatic X110 hx hZ (pc := 355) (y := (⟨"com/example/hopwise/hopwise/paths/ArcChangesFirstShortenedOutOfPinLaw", "below", "(IIII)I"⟩ : MethodName)) hown (Wd hw 30 rfl) (Wd hw 31 rfl) (Wd hw 32 rfl) (Wd hw 33 rfl) (by decide) 1 [(.int (3 : Int32)), (.int (1 : Int32)), (.int (if p20.toInt = 2 then s3 else s4)), (.int nd103)] [(.int (if ((0 : Int32) < (3 : Int32) ∧ (if p19.toInt = 0 then s1 else s2) < nd103) then (1 : Int32) else 0))] (rm5 l Z a0 hw (3 : Int32) (1 : Int32) (if p20.toInt = 2 then s3 else s4) nd103 T108.heap n0 sz108 ) (by decide) (by decide) e110 (by rw [hml]; rfl) pd6 rfl rfl (Nat.le_of_eq rfl) (hb hby at_355) (by decide) (by decide) ?_
      intro T111 L111 v111 X111 hQ111
      obtain ⟨rfl, Nq111, e111⟩ := hQ111
      have N111 := Fr.app N110 Nq111
      show Own.Go p e below _ (T111.setTop (mkF m 358 #[.val (.int a), .val (.int b), .val (.int c0), .val (.int s1), .val (.int s2), .val (.int s3), .val (.int s4), .val (.int s5), .val (.int s6), .val (.int s7), .val (.int s8), .val (.ref b9), .val (.int (3 : Int32)), .val (.int p19), .val (.int p20), .val (.int p21), .val (.int p22), .val (.ref b98), .val (.int nd103), .val (.ref b104), .val (.int (((if (if p19.toInt = 0 then s1 else s2) < nd103 then (1 : Int32) else 0) + (if (if p20.toInt = 2 then s3 else s4) < nd103 then (1 : Int32) else 0)) + (if (if p21.toInt = 4 then s5 else s6) < nd103 then (1 : Int32) else 0))), .unset] [(.int (if ((1 : Int32) < (3 : Int32) ∧ (if p20.toInt = 2 then s3 else s4) < nd103) then (1 : Int32) else 0)), (.int (if ((0 : Int32) < (3 : Int32) ∧ (if p19.toInt = 0 then s1 else s2) < nd103) then (1 : Int32) else 0))]))
      refine Own.iadd X111 hx (pc := 358) (hb hby at_358) ?_
      refine Own.iload X111 hx (pc := 359) (hb hby at_359) rfl ?_
      refine Own.iconst X111 hx (pc := 361) (2 : Int32) (hb hby at_361) (by decide) ?_
      refine Own.aload X111 hx (pc := 362) (hb hby at_362) rfl rfl ?_
      refine Own.iload X111 hx (pc := 364) (hb hby at_364) rfl ?_
      refine Own.iaload X111 hx hZ (pc := 366) e111 V_b9 (v := (.int (if p21.toInt = 4 then s5 else s6))) p21.toNatClampNeg (own_ge hp2 (by decide)) rfl (own_pick (K := 4) hp2 rfl rfl) (hb hby at_366) ?_
      refine Own.iload X111 hx (pc := 367) (hb hby at_367) rfl ?_
      refine Own.callStatic X111 hx hZ (pc := 369) (y := (⟨"com/example/hopwise/hopwise/paths/ArcChangesFirstShortenedOutOfPinLaw", "below", "(IIII)I"⟩ : MethodName)) hown (Wd hw 30 rfl) (Wd hw 31 rfl) (Wd hw 32 rfl) (Wd hw 33 rfl) (by decide) 1 [(.int (3 : Int32)), (.int (2 : Int32)), (.int (if p21.toInt = 4 then s5 else s6)), (.int nd103)] [(.int ((if ((0 : Int32) < (3 : Int32) ∧ (if p19.toInt = 0 then s1 else s2) < nd103) then (1 : Int32) else 0) + (if ((1 : Int32) < (3 : Int32) ∧ (if p20.toInt = 2 then s3 else s4) < nd103) then (1 : Int32) else 0)))] (rm5 l Z a0 hw (3 : Int32) (2 : Int32) (if p21.toInt = 4 then s5 else s6) nd103 T108.heap n0 sz108 ) (by decide) (by decide) e111 (by rw [hml]; rfl) pd6 rfl rfl (Nat.le_of_eq rfl) (hb hby at_369) (by decide) (by decide) ?_
      intro T112 L112 v112 X112 hQ112
      obtain ⟨rfl, Nq112, e112⟩ := hQ112
      have N112 := Fr.app N111 Nq112
      show Own.Go p e below _ (T112.setTop (mkF m 372 #[.val (.int a), .val (.int b), .val (.int c0), .val (.int s1), .val (.int s2), .val (.int s3), .val (.int s4), .val (.int s5), .val (.int s6), .val (.int s7), .val (.int s8), .val (.ref b9), .val (.int (3 : Int32)), .val (.int p19), .val (.int p20), .val (.int p21), .val (.int p22), .val (.ref b98), .val (.int nd103), .val (.ref b104), .val (.int (((if (if p19.toInt = 0 then s1 else s2) < nd103 then (1 : Int32) else 0) + (if (if p20.toInt = 2 then s3 else s4) < nd103 then (1 : Int32) else 0)) + (if (if p21.toInt = 4 then s5 else s6) < nd103 then (1 : Int32) else 0))), .unset] [(.int (if ((2 : Int32) < (3 : Int32) ∧ (if p21.toInt = 4 then s5 else s6) < nd103) then (1 : Int32) else 0)), (.int ((if ((0 : Int32) < (3 : Int32) ∧ (if p19.toInt = 0 then s1 else s2) < nd103) then (1 : Int32) else 0) + (if ((1 : Int32) < (3 : Int32) ∧ (if p20.toInt = 2 then s3 else s4) < nd103) then (1 : Int32) else 0)))]))
      refine Own.iadd X112 hx (pc := 372) (hb hby at_372) ?_
      refine Own.iload X112 hx (pc := 373) (hb hby at_373) rfl ?_
      refine Own.iconst X112 hx (pc := 375) (3 : Int32) (hb hby at_375) (by decide) ?_
      refine Own.aload X112 hx (pc := 376) (hb hby at_376) rfl rfl ?_
      refine Own.iload X112 hx (pc := 378) (hb hby at_378) rfl ?_
      refine Own.iaload X112 hx hZ (pc := 380) e112 V_b9 (v := (.int (if p22.toInt = 6 then s7 else s8))) p22.toNatClampNeg (own_ge hp3 (by decide)) rfl (own_pick (K := 6) hp3 rfl rfl) (hb hby at_380) ?_
      refine Own.iload X112 hx (pc := 381) (hb hby at_381) rfl ?_
      refine Own.callStatic X112 hx hZ (pc := 383) (y := (⟨"com/example/hopwise/hopwise/paths/ArcChangesFirstShortenedOutOfPinLaw", "below", "(IIII)I"⟩ : MethodName)) hown (Wd hw 30 rfl) (Wd hw 31 rfl) (Wd hw 32 rfl) (Wd hw 33 rfl) (by decide) 1 [(.int (3 : Int32)), (.int (3 : Int32)), (.int (if p22.toInt = 6 then s7 else s8)), (.int nd103)] [(.int (((if ((0 : Int32) < (3 : Int32) ∧ (if p19.toInt = 0 then s1 else s2) < nd103) then (1 : Int32) else 0) + (if ((1 : Int32) < (3 : Int32) ∧ (if p20.toInt = 2 then s3 else s4) < nd103) then (1 : Int32) else 0)) + (if ((2 : Int32) < (3 : Int32) ∧ (if p21.toInt = 4 then s5 else s6) < nd103) then (1 : Int32) else 0)))] (rm5 l Z a0 hw (3 : Int32) (3 : Int32) (if p22.toInt = 6 then s7 else s8) nd103 T108.heap n0 sz108 ) (by decide) (by decide) e112 (by rw [hml]; rfl) pd6 rfl rfl (Nat.le_of_eq rfl) (hb hby at_383) (by decide) (by decide) ?_
      intro T113 L113 v113 X113 hQ113
      obtain ⟨rfl, Nq113, e113⟩ := hQ113
      have N113 := Fr.app N112 Nq113
      show Own.Go p e below _ (T113.setTop (mkF m 386 #[.val (.int a), .val (.int b), .val (.int c0), .val (.int s1), .val (.int s2), .val (.int s3), .val (.int s4), .val (.int s5), .val (.int s6), .val (.int s7), .val (.int s8), .val (.ref b9), .val (.int (3 : Int32)), .val (.int p19), .val (.int p20), .val (.int p21), .val (.int p22), .val (.ref b98), .val (.int nd103), .val (.ref b104), .val (.int (((if (if p19.toInt = 0 then s1 else s2) < nd103 then (1 : Int32) else 0) + (if (if p20.toInt = 2 then s3 else s4) < nd103 then (1 : Int32) else 0)) + (if (if p21.toInt = 4 then s5 else s6) < nd103 then (1 : Int32) else 0))), .unset] [(.int (if ((3 : Int32) < (3 : Int32) ∧ (if p22.toInt = 6 then s7 else s8) < nd103) then (1 : Int32) else 0)), (.int (((if ((0 : Int32) < (3 : Int32) ∧ (if p19.toInt = 0 then s1 else s2) < nd103) then (1 : Int32) else 0) + (if ((1 : Int32) < (3 : Int32) ∧ (if p20.toInt = 2 then s3 else s4) < nd103) then (1 : Int32) else 0)) + (if ((2 : Int32) < (3 : Int32) ∧ (if p21.toInt = 4 then s5 else s6) < nd103) then (1 : Int32) else 0)))]))
      refine Own.iadd X113 hx (pc := 386) (hb hby at_386) ?_
      refine Own.istore X113 hx (pc := 387) #[.val (.int a), .val (.int b), .val (.int c0), .val (.int s1), .val (.int s2), .val (.int s3), .val (.int s4), .val (.int s5), .val (.int s6), .val (.int s7), .val (.int s8), .val (.ref b9), .val (.int (3 : Int32)), .val (.int p19), .val (.int p20), .val (.int p21), .val (.int p22), .val (.ref b98), .val (.int nd103), .val (.ref b104), .val (.int (((if (if p19.toInt = 0 then s1 else s2) < nd103 then (1 : Int32) else 0) + (if (if p20.toInt = 2 then s3 else s4) < nd103 then (1 : Int32) else 0)) + (if (if p21.toInt = 4 then s5 else s6) < nd103 then (1 : Int32) else 0))), .val (.int ((((if ((0 : Int32) < (3 : Int32) ∧ (if p19.toInt = 0 then s1 else s2) < nd103) then (1 : Int32) else 0) + (if ((1 : Int32) < (3 : Int32) ∧ (if p20.toInt = 2 then s3 else s4) < nd103) then (1 : Int32) else 0)) + (if ((2 : Int32) < (3 : Int32) ∧ (if p21.toInt = 4 then s5 else s6) < nd103) then (1 : Int32) else 0)) + (if ((3 : Int32) < (3 : Int32) ∧ (if p22.toInt = 6 then s7 else s8) < nd103) then (1 : Int32) else 0)))] (hb hby at_387) rfl ?_
      refine Own.iload X113 hx (pc := 389) (hb hby at_389) rfl ?_
      refine Own.iload X113 hx (pc := 391) (hb hby at_391) rfl ?_
      refine Own.icmpNo X113 hx (pc := 393) (hb hby at_393) (XT.ii_ne_f (by simp)) ?_
      refine Own.iconst X113 hx (pc := 396) (1 : Int32) (hb hby at_396) (by decide) ?_
      refine Own.goto X113 hx (pc := 397) 401 (hb hby at_397) (by decide) (by decide) ?_
      exact Own.ireturn X113 hx hk hret (by simp) rfl (hb hby at_401) e113 ⟨rfl, N113⟩ (by decide) (by decide)
    · refine Own.ifNo X101 hx (pc := 283) (hb hby at_283) (XT.i0_eq_f c102) ?_
      refine Own.iloadN X101 hx (pc := 286) (hb hby at_286) rfl ?_
      refine Own.iconst X101 hx (pc := 287) (1 : Int32) (hb hby at_287) (by decide) ?_
      refine Own.ishr X101 hx (pc := 288) (hb hby at_288) ?_
      refine Own.goto X101 hx (pc := 289) 298 (hb hby at_289) (by decide) (by decide) ?_
      generalize qnd114 : (c0 >>> ((1 : Int32) &&& 31)) = nd114
      refine Own.istore X101 hx (pc := 298) #[.val (.int a), .val (.int b), .val (.int c0), .val (.int s1), .val (.int s2), .val (.int s3), .val (.int s4), .val (.int s5), .val (.int s6), .val (.int s7), .val (.int s8), .val (.ref b9), .val (.int (3 : Int32)), .val (.int p19), .val (.int p20), .val (.int p21), .val (.int p22), .val (.ref b98), .val (.int nd114), .unset, .unset, .unset] (hb hby at_298) rfl ?_
      refine Own.newobj X101 hx hZ (pc := 300) hown (Wd hw 1 rfl) (Wd hw 2 rfl) (Wd hw 3 rfl) e101 (hb hby at_300) (by decide) (by decide) ?_
      intro T115 h115 b115 g115 X115 e115 Ex115 E_b115 D115
      have ne_b9_b115 : b9 ≠ b115 := Nat.ne_of_lt (g115 ▸ V_b9.lt)
      have ne_b98_b115 : b98 ≠ b115 := Nat.ne_of_lt (g115 ▸ V_b98.lt)
      have V_b9 := V_b9.ext Ex115
      have V_b98 := V_b98.ext Ex115
      have ge_b115 : n0 ≤ b115 := g115 ▸ sz101
      have sz115 : n0 ≤ h115.size := Nat.le_trans sz101 Ex115.1
      have F_b115_heads : Fld Z h115 b115 "com/example/hopwise/hopwise/paths/ArcChanges" "heads" "[I" .null := D115 (Or.inr (Wd hw 16 rfl)) (ty := (.array .int)) (by decide)
      have F_b115_starts : Fld Z h115 b115 "com/example/hopwise/hopwise/paths/ArcChanges" "starts" "[I" .null := D115 (Or.inr (Wd hw 18 rfl)) (ty := (.array .int)) (by decide)
      have F_b115_arcs : Fld Z h115 b115 "com/example/hopwise/hopwise/paths/ArcChanges" "arcs" "[I" .null := D115 (Or.inr (Wd hw 20 rfl)) (ty := (.array .int)) (by decide)
      have F_b115_shortened : Fld Z h115 b115 "com/example/hopwise/hopwise/paths/ArcChanges" "shortened" "[I" .null := D115 (Or.inr (Wd hw 22 rfl)) (ty := (.array .int)) (by decide)
      have F_b115_lengthsBefore : Fld Z h115 b115 "com/example/hopwise/hopwise/paths/ArcChanges" "lengthsBefore" "[I" .null := D115 (Or.inr (Wd hw 24 rfl)) (ty := (.array .int)) (by decide)
      refine Own.dup X115 hx (pc := 303) (hb hby at_303) rfl ?_
      refine Own.iconst X115 hx (pc := 304) (0 : Int32) (hb hby at_304) (by decide) ?_
      refine Own.newarr X115 hx hZ (pc := 305) (aty := .int) (Wd hw 0 rfl) e115 (hb hby at_305) (by decide) 0 0 (by decide) (by decide) (by decide) (by decide) (by decide) ?_
      intro T116 h116 b116 g116 X116 e116 Ex116 V_b116
      have ne_b9_b116 : b9 ≠ b116 := Nat.ne_of_lt (g116 ▸ V_b9.lt)
      have ne_b98_b116 : b98 ≠ b116 := Nat.ne_of_lt (g116 ▸ V_b98.lt)
      have ne_b115_b116 : b115 ≠ b116 := Nat.ne_of_lt (g116 ▸ E_b115.lt)
      have V_b9 := V_b9.ext Ex116
      have V_b98 := V_b98.ext Ex116
      have E_b115 := Exa.ext Ex116 E_b115
      have F_b115_heads := Fld.ext Ex116 F_b115_heads
      have F_b115_starts := Fld.ext Ex116 F_b115_starts
      have F_b115_arcs := Fld.ext Ex116 F_b115_arcs
      have F_b115_shortened := Fld.ext Ex116 F_b115_shortened
      have F_b115_lengthsBefore := Fld.ext Ex116 F_b115_lengthsBefore
      have ge_b116 : n0 ≤ b116 := g116 ▸ sz115
      have sz116 : n0 ≤ h116.size := Nat.le_trans sz115 Ex116.1
      replace V_b116 : Own.VArr Z h116 b116 .int ([] : List Value) := V_b116
      refine Own.aload X116 hx (pc := 307) (hb hby at_307) rfl rfl ?_
      refine Own.bipush X116 hx (pc := 309) (8 : Int32) (hb hby at_309) (by decide) ?_
      refine Own.newarr X116 hx hZ (pc := 311) (aty := .int) (Wd hw 0 rfl) e116 (hb hby at_311) (by decide) 8 8 (by decide) (by decide) (by decide) (by decide) (by decide) ?_
      intro T117 h117 b117 g117 X117 e117 Ex117 V_b117
      have ne_b9_b117 : b9 ≠ b117 := Nat.ne_of_lt (g117 ▸ V_b9.lt)
      have ne_b98_b117 : b98 ≠ b117 := Nat.ne_of_lt (g117 ▸ V_b98.lt)
      have ne_b115_b117 : b115 ≠ b117 := Nat.ne_of_lt (g117 ▸ E_b115.lt)
      have ne_b116_b117 : b116 ≠ b117 := Nat.ne_of_lt (g117 ▸ V_b116.lt)
      have V_b9 := V_b9.ext Ex117
      have V_b98 := V_b98.ext Ex117
      have E_b115 := Exa.ext Ex117 E_b115
      have F_b115_heads := Fld.ext Ex117 F_b115_heads
      have F_b115_starts := Fld.ext Ex117 F_b115_starts
      have F_b115_arcs := Fld.ext Ex117 F_b115_arcs
      have F_b115_shortened := Fld.ext Ex117 F_b115_shortened
      have F_b115_lengthsBefore := Fld.ext Ex117 F_b115_lengthsBefore
      have V_b116 := V_b116.ext Ex117
      have ge_b117 : n0 ≤ b117 := g117 ▸ sz116
      have sz117 : n0 ≤ h117.size := Nat.le_trans sz116 Ex117.1
      replace V_b117 : Own.VArr Z h117 b117 .int [(.int (0 : Int32)), (.int (0 : Int32)), (.int (0 : Int32)), (.int (0 : Int32)), (.int (0 : Int32)), (.int (0 : Int32)), (.int (0 : Int32)), (.int (0 : Int32))] := V_b117
      refine Own.aload X117 hx (pc := 313) (hb hby at_313) rfl rfl ?_
      refine Own.iconst X117 hx (pc := 315) (4 : Int32) (hb hby at_315) (by decide) ?_
      refine Own.newarr X117 hx hZ (pc := 316) (aty := .int) (Wd hw 0 rfl) e117 (hb hby at_316) (by decide) 4 4 (by decide) (by decide) (by decide) (by decide) (by decide) ?_
      intro T118 h118 b118 g118 X118 e118 Ex118 V_b118
      have ne_b9_b118 : b9 ≠ b118 := Nat.ne_of_lt (g118 ▸ V_b9.lt)
      have ne_b98_b118 : b98 ≠ b118 := Nat.ne_of_lt (g118 ▸ V_b98.lt)
      have ne_b115_b118 : b115 ≠ b118 := Nat.ne_of_lt (g118 ▸ E_b115.lt)
      have ne_b116_b118 : b116 ≠ b118 := Nat.ne_of_lt (g118 ▸ V_b116.lt)
      have ne_b117_b118 : b117 ≠ b118 := Nat.ne_of_lt (g118 ▸ V_b117.lt)
      have V_b9 := V_b9.ext Ex118
      have V_b98 := V_b98.ext Ex118
      have E_b115 := Exa.ext Ex118 E_b115
      have F_b115_heads := Fld.ext Ex118 F_b115_heads
      have F_b115_starts := Fld.ext Ex118 F_b115_starts
      have F_b115_arcs := Fld.ext Ex118 F_b115_arcs
      have F_b115_shortened := Fld.ext Ex118 F_b115_shortened
      have F_b115_lengthsBefore := Fld.ext Ex118 F_b115_lengthsBefore
      have V_b116 := V_b116.ext Ex118
      have V_b117 := V_b117.ext Ex118
      have ge_b118 : n0 ≤ b118 := g118 ▸ sz117
      have sz118 : n0 ≤ h118.size := Nat.le_trans sz117 Ex118.1
      replace V_b118 : Own.VArr Z h118 b118 .int [(.int (0 : Int32)), (.int (0 : Int32)), (.int (0 : Int32)), (.int (0 : Int32))] := V_b118
      refine Own.callSpecial X118 hx hZ (pc := 318) (y := (⟨"com/example/hopwise/hopwise/paths/ArcChanges", "<init>", "([I[I[I[I[I)V"⟩ : MethodName)) rfl hown (Wd hw 4 rfl) (Wd hw 5 rfl) (Wd hw 3 rfl) (Wd hw 6 rfl) (by decide) 1 b115 [(.ref b116), (.ref b9), (.ref b117), (.ref b98), (.ref b118)] [(.ref b115)] (rm1 l Z a0 hw b115 b116 b9 b117 b98 b118 h118 n0 sz118 E_b115 F_b115_heads F_b115_starts F_b115_arcs F_b115_shortened F_b115_lengthsBefore ge_b115) (by decide) (by decide) e118 (by rw [hml]; rfl) pd4 rfl rfl (Nat.le_of_eq rfl) (hb hby at_318) (by decide) (by decide) ?_
      intro T119 L119 v119 X119 hQ119
      obtain ⟨rfl, Nq119, K119, F_b115_starts', F_b115_shortened'⟩ := hQ119
      have e119 : T119.heap = T119.heap := rfl
      have V_b9 := V_b9.keep K119 (ninS ne_b9_b115 nin0)
      have V_b98 := V_b98.keep K119 (ninS ne_b98_b115 nin0)
      have E_b115 := E_b115.keep K119
      have V_b116 := V_b116.keep K119 (ninS (Ne.symm ne_b115_b116) nin0)
      have V_b117 := V_b117.keep K119 (ninS (Ne.symm ne_b115_b117) nin0)
      have V_b118 := V_b118.keep K119 (ninS (Ne.symm ne_b115_b118) nin0)
      have sz119 : n0 ≤ T119.heap.size := Nat.le_trans sz118 K119.1
      have F_b115_starts := F_b115_starts'
      have F_b115_shortened := F_b115_shortened'
      have N119 := Fr.app N101 Nq119
      show Own.Go p e below _ (T119.setTop (mkF m 321 #[.val (.int a), .val (.int b), .val (.int c0), .val (.int s1), .val (.int s2), .val (.int s3), .val (.int s4), .val (.int s5), .val (.int s6), .val (.int s7), .val (.int s8), .val (.ref b9), .val (.int (3 : Int32)), .val (.int p19), .val (.int p20), .val (.int p21), .val (.int p22), .val (.ref b98), .val (.int nd114), .unset, .unset, .unset] [(.ref b115)]))
      refine Own.astore X119 hx (pc := 321) #[.val (.int a), .val (.int b), .val (.int c0), .val (.int s1), .val (.int s2), .val (.int s3), .val (.int s4), .val (.int s5), .val (.int s6), .val (.int s7), .val (.int s8), .val (.ref b9), .val (.int (3 : Int32)), .val (.int p19), .val (.int p20), .val (.int p21), .val (.int p22), .val (.ref b98), .val (.int nd114), .val (.ref b115), .unset, .unset] (hb hby at_321) rfl rfl ?_
      refine Own.aload X119 hx (pc := 323) (hb hby at_323) rfl rfl ?_
      refine Own.iload X119 hx (pc := 325) (hb hby at_325) rfl ?_
      refine Own.callVirtual X119 hx hZ (pc := 327) (y := (⟨"com/example/hopwise/hopwise/paths/ArcChanges", "firstShortenedOutOf", "(I)I"⟩ : MethodName)) (z := (⟨"com/example/hopwise/hopwise/paths/ArcChanges", "firstShortenedOutOf", "(I)I"⟩ : MethodName)) hown (Wd hw 25 rfl) (Wd hw 26 rfl) (Wd hw 28 rfl) (Wd hw 27 rfl) (Wd hw 3 rfl) (Wd hw 29 rfl) (Wd hw 28 rfl) (by decide) 0 b115 [(.int nd114)] [] E_b115 (rm4_3 l Z a0 hw b115 nd114 b9 b98 ([(.int s1), (.int s2), (.int s3), (.int s4), (.int s5), (.int s6), (.int s7), (.int s8)]) p19 p20 p21 (if p19.toInt = 0 then s1 else s2) (if p20.toInt = 2 then s3 else s4) (if p21.toInt = 4 then s5 else s6) T119.heap n0 sz119 F_b115_starts F_b115_shortened V_b9 V_b98 (own_ge hp0 (by decide)) (own_pick (K := 0) hp0 rfl rfl) (own_ge hp1 (by decide)) (own_pick (K := 2) hp1 rfl rfl) (own_ge hp2 (by decide)) (own_pick (K := 4) hp2 rfl rfl) (own_mono (by omega) (by omega) (by omega) (by omega)) (own_mono (by omega) (by omega) (by omega) (by omega)) (own_mono (by omega) (by omega) (by omega) (by omega))) (by decide) (by decide) e119 (by rw [hml]; rfl) pd5 rfl rfl (Nat.le_of_eq rfl) (hb hby at_327) (by decide) (by decide) ?_
      intro T120 L120 v120 X120 hQ120
      obtain ⟨rfl, Nq120, e120⟩ := hQ120
      have N120 := Fr.app N119 Nq120
      show Own.Go p e below _ (T120.setTop (mkF m 330 #[.val (.int a), .val (.int b), .val (.int c0), .val (.int s1), .val (.int s2), .val (.int s3), .val (.int s4), .val (.int s5), .val (.int s6), .val (.int s7), .val (.int s8), .val (.ref b9), .val (.int (3 : Int32)), .val (.int p19), .val (.int p20), .val (.int p21), .val (.int p22), .val (.ref b98), .val (.int nd114), .val (.ref b115), .unset, .unset] [(.int (((if (if p19.toInt = 0 then s1 else s2) < nd114 then (1 : Int32) else 0) + (if (if p20.toInt = 2 then s3 else s4) < nd114 then (1 : Int32) else 0)) + (if (if p21.toInt = 4 then s5 else s6) < nd114 then (1 : Int32) else 0)))]))
      refine Own.istore X120 hx (pc := 330) #[.val (.int a), .val (.int b), .val (.int c0), .val (.int s1), .val (.int s2), .val (.int s3), .val (.int s4), .val (.int s5), .val (.int s6), .val (.int s7), .val (.int s8), .val (.ref b9), .val (.int (3 : Int32)), .val (.int p19), .val (.int p20), .val (.int p21), .val (.int p22), .val (.ref b98), .val (.int nd114), .val (.ref b115), .val (.int (((if (if p19.toInt = 0 then s1 else s2) < nd114 then (1 : Int32) else 0) + (if (if p20.toInt = 2 then s3 else s4) < nd114 then (1 : Int32) else 0)) + (if (if p21.toInt = 4 then s5 else s6) < nd114 then (1 : Int32) else 0))), .unset] (hb hby at_330) rfl ?_
      refine Own.iload X120 hx (pc := 332) (hb hby at_332) rfl ?_
      refine Own.iconst X120 hx (pc := 334) (0 : Int32) (hb hby at_334) (by decide) ?_
      refine Own.aload X120 hx (pc := 335) (hb hby at_335) rfl rfl ?_
      refine Own.iload X120 hx (pc := 337) (hb hby at_337) rfl ?_
      refine Own.iaload X120 hx hZ (pc := 339) e120 V_b9 (v := (.int (if p19.toInt = 0 then s1 else s2))) p19.toNatClampNeg (own_ge hp0 (by decide)) rfl (own_pick (K := 0) hp0 rfl rfl) (hb hby at_339) ?_
      refine Own.iload X120 hx (pc := 340) (hb hby at_340) rfl ?_
      refine Own.callStatic X120 hx hZ (pc := 342) (y := (⟨"com/example/hopwise/hopwise/paths/ArcChangesFirstShortenedOutOfPinLaw", "below", "(IIII)I"⟩ : MethodName)) hown (Wd hw 30 rfl) (Wd hw 31 rfl) (Wd hw 32 rfl) (Wd hw 33 rfl) (by decide) 0 [(.int (3 : Int32)), (.int (0 : Int32)), (.int (if p19.toInt = 0 then s1 else s2)), (.int nd114)] [] (rm5 l Z a0 hw (3 : Int32) (0 : Int32) (if p19.toInt = 0 then s1 else s2) nd114 T119.heap n0 sz119 ) (by decide) (by decide) e120 (by rw [hml]; rfl) pd6 rfl rfl (Nat.le_of_eq rfl) (hb hby at_342) (by decide) (by decide) ?_
      intro T121 L121 v121 X121 hQ121
      obtain ⟨rfl, Nq121, e121⟩ := hQ121
      have N121 := Fr.app N120 Nq121
      show Own.Go p e below _ (T121.setTop (mkF m 345 #[.val (.int a), .val (.int b), .val (.int c0), .val (.int s1), .val (.int s2), .val (.int s3), .val (.int s4), .val (.int s5), .val (.int s6), .val (.int s7), .val (.int s8), .val (.ref b9), .val (.int (3 : Int32)), .val (.int p19), .val (.int p20), .val (.int p21), .val (.int p22), .val (.ref b98), .val (.int nd114), .val (.ref b115), .val (.int (((if (if p19.toInt = 0 then s1 else s2) < nd114 then (1 : Int32) else 0) + (if (if p20.toInt = 2 then s3 else s4) < nd114 then (1 : Int32) else 0)) + (if (if p21.toInt = 4 then s5 else s6) < nd114 then (1 : Int32) else 0))), .unset] [(.int (if ((0 : Int32) < (3 : Int32) ∧ (if p19.toInt = 0 then s1 else s2) < nd114) then (1 : Int32) else 0))]))
      refine Own.iload X121 hx (pc := 345) (hb hby at_345) rfl ?_
      refine Own.iconst X121 hx (pc := 347) (1 : Int32) (hb hby at_347) (by decide) ?_
      refine Own.aload X121 hx (pc := 348) (hb hby at_348) rfl rfl ?_
      refine Own.iload X121 hx (pc := 350) (hb hby at_350) rfl ?_
      refine Own.iaload X121 hx hZ (pc := 352) e121 V_b9 (v := (.int (if p20.toInt = 2 then s3 else s4))) p20.toNatClampNeg (own_ge hp1 (by decide)) rfl (own_pick (K := 2) hp1 rfl rfl) (hb hby at_352) ?_
      refine Own.iload X121 hx (pc := 353) (hb hby at_353) rfl ?_
      refine Own.callStatic X121 hx hZ (pc := 355) (y := (⟨"com/example/hopwise/hopwise/paths/ArcChangesFirstShortenedOutOfPinLaw", "below", "(IIII)I"⟩ : MethodName)) hown (Wd hw 30 rfl) (Wd hw 31 rfl) (Wd hw 32 rfl) (Wd hw 33 rfl) (by decide) 1 [(.int (3 : Int32)), (.int (1 : Int32)), (.int (if p20.toInt = 2 then s3 else s4)), (.int nd114)] [(.int (if ((0 : Int32) < (3 : Int32) ∧ (if p19.toInt = 0 then s1 else s2) < nd114) then (1 : Int32) else 0))] (rm5 l Z a0 hw (3 : Int32) (1 : Int32) (if p20.toInt = 2 then s3 else s4) nd114 T119.heap n0 sz119 ) (by decide) (by decide) e121 (by rw [hml]; rfl) pd6 rfl rfl (Nat.le_of_eq rfl) (hb hby at_355) (by decide) (by decide) ?_
      intro T122 L122 v122 X122 hQ122
      obtain ⟨rfl, Nq122, e122⟩ := hQ122
      have N122 := Fr.app N121 Nq122
      show Own.Go p e below _ (T122.setTop (mkF m 358 #[.val (.int a), .val (.int b), .val (.int c0), .val (.int s1), .val (.int s2), .val (.int s3), .val (.int s4), .val (.int s5), .val (.int s6), .val (.int s7), .val (.int s8), .val (.ref b9), .val (.int (3 : Int32)), .val (.int p19), .val (.int p20), .val (.int p21), .val (.int p22), .val (.ref b98), .val (.int nd114), .val (.ref b115), .val (.int (((if (if p19.toInt = 0 then s1 else s2) < nd114 then (1 : Int32) else 0) + (if (if p20.toInt = 2 then s3 else s4) < nd114 then (1 : Int32) else 0)) + (if (if p21.toInt = 4 then s5 else s6) < nd114 then (1 : Int32) else 0))), .unset] [(.int (if ((1 : Int32) < (3 : Int32) ∧ (if p20.toInt = 2 then s3 else s4) < nd114) then (1 : Int32) else 0)), (.int (if ((0 : Int32) < (3 : Int32) ∧ (if p19.toInt = 0 then s1 else s2) < nd114) then (1 : Int32) else 0))]))
      refine Own.iadd X122 hx (pc := 358) (hb hby at_358) ?_
      refine Own.iload X122 hx (pc := 359) (hb hby at_359) rfl ?_
      refine Own.iconst X122 hx (pc := 361) (2 : Int32) (hb hby at_361) (by decide) ?_
      refine Own.aload X122 hx (pc := 362) (hb hby at_362) rfl rfl ?_
      refine Own.iload X122 hx (pc := 364) (hb hby at_364) rfl ?_
      refine Own.iaload X122 hx hZ (pc := 366) e122 V_b9 (v := (.int (if p21.toInt = 4 then s5 else s6))) p21.toNatClampNeg (own_ge hp2 (by decide)) rfl (own_pick (K := 4) hp2 rfl rfl) (hb hby at_366) ?_
      refine Own.iload X122 hx (pc := 367) (hb hby at_367) rfl ?_
      refine Own.callStatic X122 hx hZ (pc := 369) (y := (⟨"com/example/hopwise/hopwise/paths/ArcChangesFirstShortenedOutOfPinLaw", "below", "(IIII)I"⟩ : MethodName)) hown (Wd hw 30 rfl) (Wd hw 31 rfl) (Wd hw 32 rfl) (Wd hw 33 rfl) (by decide) 1 [(.int (3 : Int32)), (.int (2 : Int32)), (.int (if p21.toInt = 4 then s5 else s6)), (.int nd114)] [(.int ((if ((0 : Int32) < (3 : Int32) ∧ (if p19.toInt = 0 then s1 else s2) < nd114) then (1 : Int32) else 0) + (if ((1 : Int32) < (3 : Int32) ∧ (if p20.toInt = 2 then s3 else s4) < nd114) then (1 : Int32) else 0)))] (rm5 l Z a0 hw (3 : Int32) (2 : Int32) (if p21.toInt = 4 then s5 else s6) nd114 T119.heap n0 sz119 ) (by decide) (by decide) e122 (by rw [hml]; rfl) pd6 rfl rfl (Nat.le_of_eq rfl) (hb hby at_369) (by decide) (by decide) ?_
      intro T123 L123 v123 X123 hQ123
      obtain ⟨rfl, Nq123, e123⟩ := hQ123
      have N123 := Fr.app N122 Nq123
      show Own.Go p e below _ (T123.setTop (mkF m 372 #[.val (.int a), .val (.int b), .val (.int c0), .val (.int s1), .val (.int s2), .val (.int s3), .val (.int s4), .val (.int s5), .val (.int s6), .val (.int s7), .val (.int s8), .val (.ref b9), .val (.int (3 : Int32)), .val (.int p19), .val (.int p20), .val (.int p21), .val (.int p22), .val (.ref b98), .val (.int nd114), .val (.ref b115), .val (.int (((if (if p19.toInt = 0 then s1 else s2) < nd114 then (1 : Int32) else 0) + (if (if p20.toInt = 2 then s3 else s4) < nd114 then (1 : Int32) else 0)) + (if (if p21.toInt = 4 then s5 else s6) < nd114 then (1 : Int32) else 0))), .unset] [(.int (if ((2 : Int32) < (3 : Int32) ∧ (if p21.toInt = 4 then s5 else s6) < nd114) then (1 : Int32) else 0)), (.int ((if ((0 : Int32) < (3 : Int32) ∧ (if p19.toInt = 0 then s1 else s2) < nd114) then (1 : Int32) else 0) + (if ((1 : Int32) < (3 : Int32) ∧ (if p20.toInt = 2 then s3 else s4) < nd114) then (1 : Int32) else 0)))]))
      refine Own.iadd X123 hx (pc := 372) (hb hby at_372) ?_
      refine Own.iload X123 hx (pc := 373) (hb hby at_373) rfl ?_
      refine Own.iconst X123 hx (pc := 375) (3 : Int32) (hb hby at_375) (by decide) ?_
      refine Own.aload X123 hx (pc := 376) (hb hby at_376) rfl rfl ?_
      refine Own.iload X123 hx (pc := 378) (hb hby at_378) rfl ?_
      refine Own.iaload X123 hx hZ (pc := 380) e123 V_b9 (v := (.int (if p22.toInt = 6 then s7 else s8))) p22.toNatClampNeg (own_ge hp3 (by decide)) rfl (own_pick (K := 6) hp3 rfl rfl) (hb hby at_380) ?_
      refine Own.iload X123 hx (pc := 381) (hb hby at_381) rfl ?_
      refine Own.callStatic X123 hx hZ (pc := 383) (y := (⟨"com/example/hopwise/hopwise/paths/ArcChangesFirstShortenedOutOfPinLaw", "below", "(IIII)I"⟩ : MethodName)) hown (Wd hw 30 rfl) (Wd hw 31 rfl) (Wd hw 32 rfl) (Wd hw 33 rfl) (by decide) 1 [(.int (3 : Int32)), (.int (3 : Int32)), (.int (if p22.toInt = 6 then s7 else s8)), (.int nd114)] [(.int (((if ((0 : Int32) < (3 : Int32) ∧ (if p19.toInt = 0 then s1 else s2) < nd114) then (1 : Int32) else 0) + (if ((1 : Int32) < (3 : Int32) ∧ (if p20.toInt = 2 then s3 else s4) < nd114) then (1 : Int32) else 0)) + (if ((2 : Int32) < (3 : Int32) ∧ (if p21.toInt = 4 then s5 else s6) < nd114) then (1 : Int32) else 0)))] (rm5 l Z a0 hw (3 : Int32) (3 : Int32) (if p22.toInt = 6 then s7 else s8) nd114 T119.heap n0 sz119 ) (by decide) (by decide) e123 (by rw [hml]; rfl) pd6 rfl rfl (Nat.le_of_eq rfl) (hb hby at_383) (by decide) (by decide) ?_
      intro T124 L124 v124 X124 hQ124
      obtain ⟨rfl, Nq124, e124⟩ := hQ124
      have N124 := Fr.app N123 Nq124
      show Own.Go p e below _ (T124.setTop (mkF m 386 #[.val (.int a), .val (.int b), .val (.int c0), .val (.int s1), .val (.int s2), .val (.int s3), .val (.int s4), .val (.int s5), .val (.int s6), .val (.int s7), .val (.int s8), .val (.ref b9), .val (.int (3 : Int32)), .val (.int p19), .val (.int p20), .val (.int p21), .val (.int p22), .val (.ref b98), .val (.int nd114), .val (.ref b115), .val (.int (((if (if p19.toInt = 0 then s1 else s2) < nd114 then (1 : Int32) else 0) + (if (if p20.toInt = 2 then s3 else s4) < nd114 then (1 : Int32) else 0)) + (if (if p21.toInt = 4 then s5 else s6) < nd114 then (1 : Int32) else 0))), .unset] [(.int (if ((3 : Int32) < (3 : Int32) ∧ (if p22.toInt = 6 then s7 else s8) < nd114) then (1 : Int32) else 0)), (.int (((if ((0 : Int32) < (3 : Int32) ∧ (if p19.toInt = 0 then s1 else s2) < nd114) then (1 : Int32) else 0) + (if ((1 : Int32) < (3 : Int32) ∧ (if p20.toInt = 2 then s3 else s4) < nd114) then (1 : Int32) else 0)) + (if ((2 : Int32) < (3 : Int32) ∧ (if p21.toInt = 4 then s5 else s6) < nd114) then (1 : Int32) else 0)))]))
      refine Own.iadd X124 hx (pc := 386) (hb hby at_386) ?_
      refine Own.istore X124 hx (pc := 387) #[.val (.int a), .val (.int b), .val (.int c0), .val (.int s1), .val (.int s2), .val (.int s3), .val (.int s4), .val (.int s5), .val (.int s6), .val (.int s7), .val (.int s8), .val (.ref b9), .val (.int (3 : Int32)), .val (.int p19), .val (.int p20), .val (.int p21), .val (.int p22), .val (.ref b98), .val (.int nd114), .val (.ref b115), .val (.int (((if (if p19.toInt = 0 then s1 else s2) < nd114 then (1 : Int32) else 0) + (if (if p20.toInt = 2 then s3 else s4) < nd114 then (1 : Int32) else 0)) + (if (if p21.toInt = 4 then s5 else s6) < nd114 then (1 : Int32) else 0))), .val (.int ((((if ((0 : Int32) < (3 : Int32) ∧ (if p19.toInt = 0 then s1 else s2) < nd114) then (1 : Int32) else 0) + (if ((1 : Int32) < (3 : Int32) ∧ (if p20.toInt = 2 then s3 else s4) < nd114) then (1 : Int32) else 0)) + (if ((2 : Int32) < (3 : Int32) ∧ (if p21.toInt = 4 then s5 else s6) < nd114) then (1 : Int32) else 0)) + (if ((3 : Int32) < (3 : Int32) ∧ (if p22.toInt = 6 then s7 else s8) < nd114) then (1 : Int32) else 0)))] (hb hby at_387) rfl ?_
      refine Own.iload X124 hx (pc := 389) (hb hby at_389) rfl ?_
      refine Own.iload X124 hx (pc := 391) (hb hby at_391) rfl ?_
      refine Own.icmpNo X124 hx (pc := 393) (hb hby at_393) (XT.ii_ne_f (by simp)) ?_
      refine Own.iconst X124 hx (pc := 396) (1 : Int32) (hb hby at_396) (by decide) ?_
      refine Own.goto X124 hx (pc := 397) 401 (hb hby at_397) (by decide) (by decide) ?_
      exact Own.ireturn X124 hx hk hret (by simp) rfl (hb hby at_401) e124 ⟨rfl, N124⟩ (by decide) (by decide)
  · refine Own.iload X17 hx (pc := 170) (hb hby at_170) rfl ?_
    refine Own.ifYes X17 hx (pc := 172) 183 (hb hby at_172) (by decide) (by decide) (by decide) ?_
    refine Own.iload X17 hx (pc := 183) (hb hby at_183) rfl ?_
    refine Own.iconst X17 hx (pc := 185) (1 : Int32) (hb hby at_185) (by decide) ?_
    refine Own.icmpYes X17 hx (pc := 186) 202 (hb hby at_186) (by decide) (by decide) (by decide) ?_
    refine Own.iload X17 hx (pc := 202) (hb hby at_202) rfl ?_
    refine Own.iconst X17 hx (pc := 204) (2 : Int32) (hb hby at_204) (by decide) ?_
    refine Own.icmpYes X17 hx (pc := 205) 226 (hb hby at_205) (by decide) (by decide) (by decide) ?_
    refine Own.iload X17 hx (pc := 226) (hb hby at_226) rfl ?_
    refine Own.iconst X17 hx (pc := 228) (3 : Int32) (hb hby at_228) (by decide) ?_
    refine Own.icmpYes X17 hx (pc := 229) 255 (hb hby at_229) (by decide) (by decide) (by decide) ?_
    refine Own.iconst X17 hx (pc := 255) (4 : Int32) (hb hby at_255) (by decide) ?_
    refine Own.newarr X17 hx hZ (pc := 256) (aty := .int) (Wd hw 0 rfl) e17 (hb hby at_256) (by decide) 4 4 (by decide) (by decide) (by decide) (by decide) (by decide) ?_
    intro T125 h125 b125 g125 X125 e125 Ex125 V_b125
    have ne_b9_b125 : b9 ≠ b125 := Nat.ne_of_lt (g125 ▸ V_b9.lt)
    have V_b9 := V_b9.ext Ex125
    have ge_b125 : n0 ≤ b125 := g125 ▸ sz17
    have sz125 : n0 ≤ h125.size := Nat.le_trans sz17 Ex125.1
    replace V_b125 : Own.VArr Z h125 b125 .int [(.int (0 : Int32)), (.int (0 : Int32)), (.int (0 : Int32)), (.int (0 : Int32))] := V_b125
    refine Own.dup X125 hx (pc := 258) (hb hby at_258) rfl ?_
    refine Own.iconst X125 hx (pc := 259) (0 : Int32) (hb hby at_259) (by decide) ?_
    refine Own.iload X125 hx (pc := 260) (hb hby at_260) rfl ?_
    refine Own.iastore X125 hx hZ (pc := 262) e125 V_b125 0 (by decide) (by decide) (of_decide_eq_true rfl) N17 ge_b125 (hb hby at_262) ?_
    intro T126 h126 X126 e126 W126 N126 V_b125
    replace V_b125 : Own.VArr Z h126 b125 .int [(.int p19), (.int (0 : Int32)), (.int (0 : Int32)), (.int (0 : Int32))] := V_b125
    have sz126 : n0 ≤ h126.size := Nat.le_trans sz125 (Nat.le_of_eq (Wr.size W126).symm)
    have V_b9 := V_b9.other W126 ne_b9_b125
    refine Own.dup X126 hx (pc := 263) (hb hby at_263) rfl ?_
    refine Own.iconst X126 hx (pc := 264) (1 : Int32) (hb hby at_264) (by decide) ?_
    refine Own.iload X126 hx (pc := 265) (hb hby at_265) rfl ?_
    refine Own.iastore X126 hx hZ (pc := 267) e126 V_b125 1 (by decide) (by decide) (of_decide_eq_true rfl) N126 ge_b125 (hb hby at_267) ?_
    intro T127 h127 X127 e127 W127 N127 V_b125
    replace V_b125 : Own.VArr Z h127 b125 .int [(.int p19), (.int p20), (.int (0 : Int32)), (.int (0 : Int32))] := V_b125
    have sz127 : n0 ≤ h127.size := Nat.le_trans sz126 (Nat.le_of_eq (Wr.size W127).symm)
    have V_b9 := V_b9.other W127 ne_b9_b125
    refine Own.dup X127 hx (pc := 268) (hb hby at_268) rfl ?_
    refine Own.iconst X127 hx (pc := 269) (2 : Int32) (hb hby at_269) (by decide) ?_
    refine Own.iload X127 hx (pc := 270) (hb hby at_270) rfl ?_
    refine Own.iastore X127 hx hZ (pc := 272) e127 V_b125 2 (by decide) (by decide) (of_decide_eq_true rfl) N127 ge_b125 (hb hby at_272) ?_
    intro T128 h128 X128 e128 W128 N128 V_b125
    replace V_b125 : Own.VArr Z h128 b125 .int [(.int p19), (.int p20), (.int p21), (.int (0 : Int32))] := V_b125
    have sz128 : n0 ≤ h128.size := Nat.le_trans sz127 (Nat.le_of_eq (Wr.size W128).symm)
    have V_b9 := V_b9.other W128 ne_b9_b125
    refine Own.dup X128 hx (pc := 273) (hb hby at_273) rfl ?_
    refine Own.iconst X128 hx (pc := 274) (3 : Int32) (hb hby at_274) (by decide) ?_
    refine Own.iload X128 hx (pc := 275) (hb hby at_275) rfl ?_
    refine Own.iastore X128 hx hZ (pc := 277) e128 V_b125 3 (by decide) (by decide) (of_decide_eq_true rfl) N128 ge_b125 (hb hby at_277) ?_
    intro T129 h129 X129 e129 W129 N129 V_b125
    replace V_b125 : Own.VArr Z h129 b125 .int [(.int p19), (.int p20), (.int p21), (.int p22)] := V_b125
    have sz129 : n0 ≤ h129.size := Nat.le_trans sz128 (Nat.le_of_eq (Wr.size W129).symm)
    have V_b9 := V_b9.other W129 ne_b9_b125
    refine Own.astore X129 hx (pc := 278) #[.val (.int a), .val (.int b), .val (.int c0), .val (.int s1), .val (.int s2), .val (.int s3), .val (.int s4), .val (.int s5), .val (.int s6), .val (.int s7), .val (.int s8), .val (.ref b9), .val (.int (4 : Int32)), .val (.int p19), .val (.int p20), .val (.int p21), .val (.int p22), .val (.ref b125), .unset, .unset, .unset, .unset] (hb hby at_278) rfl rfl ?_
    refine Own.iloadN X129 hx (pc := 280) (hb hby at_280) rfl ?_
    refine Own.iconst X129 hx (pc := 281) (1 : Int32) (hb hby at_281) (by decide) ?_
    refine Own.iand X129 hx (pc := 282) (hb hby at_282) ?_
    by_cases c130 : (c0 &&& (1 : Int32)) = (0 : Int32)
    · refine Own.ifYes X129 hx (pc := 283) 292 (hb hby at_283) (XT.i0_eq_t c130) (by decide) (by decide) ?_
      refine Own.iloadN X129 hx (pc := 292) (hb hby at_292) rfl ?_
      refine Own.iconst X129 hx (pc := 293) (1 : Int32) (hb hby at_293) (by decide) ?_
      refine Own.iushr X129 hx (pc := 294) (hb hby at_294) ?_
      refine Own.bipush X129 hx (pc := 295) (31 : Int32) (hb hby at_295) (by decide) ?_
      refine Own.iand X129 hx (pc := 297) (hb hby at_297) ?_
      generalize qnd131 : ((XT.ushr c0 (1 : Int32)) &&& (31 : Int32)) = nd131
      refine Own.istore X129 hx (pc := 298) #[.val (.int a), .val (.int b), .val (.int c0), .val (.int s1), .val (.int s2), .val (.int s3), .val (.int s4), .val (.int s5), .val (.int s6), .val (.int s7), .val (.int s8), .val (.ref b9), .val (.int (4 : Int32)), .val (.int p19), .val (.int p20), .val (.int p21), .val (.int p22), .val (.ref b125), .val (.int nd131), .unset, .unset, .unset] (hb hby at_298) rfl ?_
      refine Own.newobj X129 hx hZ (pc := 300) hown (Wd hw 1 rfl) (Wd hw 2 rfl) (Wd hw 3 rfl) e129 (hb hby at_300) (by decide) (by decide) ?_
      intro T132 h132 b132 g132 X132 e132 Ex132 E_b132 D132
      have ne_b9_b132 : b9 ≠ b132 := Nat.ne_of_lt (g132 ▸ V_b9.lt)
      have ne_b125_b132 : b125 ≠ b132 := Nat.ne_of_lt (g132 ▸ V_b125.lt)
      have V_b9 := V_b9.ext Ex132
      have V_b125 := V_b125.ext Ex132
      have ge_b132 : n0 ≤ b132 := g132 ▸ sz129
      have sz132 : n0 ≤ h132.size := Nat.le_trans sz129 Ex132.1
      have F_b132_heads : Fld Z h132 b132 "com/example/hopwise/hopwise/paths/ArcChanges" "heads" "[I" .null := D132 (Or.inr (Wd hw 16 rfl)) (ty := (.array .int)) (by decide)
      have F_b132_starts : Fld Z h132 b132 "com/example/hopwise/hopwise/paths/ArcChanges" "starts" "[I" .null := D132 (Or.inr (Wd hw 18 rfl)) (ty := (.array .int)) (by decide)
      have F_b132_arcs : Fld Z h132 b132 "com/example/hopwise/hopwise/paths/ArcChanges" "arcs" "[I" .null := D132 (Or.inr (Wd hw 20 rfl)) (ty := (.array .int)) (by decide)
      have F_b132_shortened : Fld Z h132 b132 "com/example/hopwise/hopwise/paths/ArcChanges" "shortened" "[I" .null := D132 (Or.inr (Wd hw 22 rfl)) (ty := (.array .int)) (by decide)
      have F_b132_lengthsBefore : Fld Z h132 b132 "com/example/hopwise/hopwise/paths/ArcChanges" "lengthsBefore" "[I" .null := D132 (Or.inr (Wd hw 24 rfl)) (ty := (.array .int)) (by decide)
      refine Own.dup X132 hx (pc := 303) (hb hby at_303) rfl ?_
      refine Own.iconst X132 hx (pc := 304) (0 : Int32) (hb hby at_304) (by decide) ?_
      refine Own.newarr X132 hx hZ (pc := 305) (aty := .int) (Wd hw 0 rfl) e132 (hb hby at_305) (by decide) 0 0 (by decide) (by decide) (by decide) (by decide) (by decide) ?_
      intro T133 h133 b133 g133 X133 e133 Ex133 V_b133
      have ne_b9_b133 : b9 ≠ b133 := Nat.ne_of_lt (g133 ▸ V_b9.lt)
      have ne_b125_b133 : b125 ≠ b133 := Nat.ne_of_lt (g133 ▸ V_b125.lt)
      have ne_b132_b133 : b132 ≠ b133 := Nat.ne_of_lt (g133 ▸ E_b132.lt)
      have V_b9 := V_b9.ext Ex133
      have V_b125 := V_b125.ext Ex133
      have E_b132 := Exa.ext Ex133 E_b132
      have F_b132_heads := Fld.ext Ex133 F_b132_heads
      have F_b132_starts := Fld.ext Ex133 F_b132_starts
      have F_b132_arcs := Fld.ext Ex133 F_b132_arcs
      have F_b132_shortened := Fld.ext Ex133 F_b132_shortened
      have F_b132_lengthsBefore := Fld.ext Ex133 F_b132_lengthsBefore
      have ge_b133 : n0 ≤ b133 := g133 ▸ sz132
      have sz133 : n0 ≤ h133.size := Nat.le_trans sz132 Ex133.1
      replace V_b133 : Own.VArr Z h133 b133 .int ([] : List Value) := V_b133
      refine Own.aload X133 hx (pc := 307) (hb hby at_307) rfl rfl ?_
      refine Own.bipush X133 hx (pc := 309) (8 : Int32) (hb hby at_309) (by decide) ?_
      refine Own.newarr X133 hx hZ (pc := 311) (aty := .int) (Wd hw 0 rfl) e133 (hb hby at_311) (by decide) 8 8 (by decide) (by decide) (by decide) (by decide) (by decide) ?_
      intro T134 h134 b134 g134 X134 e134 Ex134 V_b134
      have ne_b9_b134 : b9 ≠ b134 := Nat.ne_of_lt (g134 ▸ V_b9.lt)
      have ne_b125_b134 : b125 ≠ b134 := Nat.ne_of_lt (g134 ▸ V_b125.lt)
      have ne_b132_b134 : b132 ≠ b134 := Nat.ne_of_lt (g134 ▸ E_b132.lt)
      have ne_b133_b134 : b133 ≠ b134 := Nat.ne_of_lt (g134 ▸ V_b133.lt)
      have V_b9 := V_b9.ext Ex134
      have V_b125 := V_b125.ext Ex134
      have E_b132 := Exa.ext Ex134 E_b132
      have F_b132_heads := Fld.ext Ex134 F_b132_heads
      have F_b132_starts := Fld.ext Ex134 F_b132_starts
      have F_b132_arcs := Fld.ext Ex134 F_b132_arcs
      have F_b132_shortened := Fld.ext Ex134 F_b132_shortened
      have F_b132_lengthsBefore := Fld.ext Ex134 F_b132_lengthsBefore
      have V_b133 := V_b133.ext Ex134
      have ge_b134 : n0 ≤ b134 := g134 ▸ sz133
      have sz134 : n0 ≤ h134.size := Nat.le_trans sz133 Ex134.1
      replace V_b134 : Own.VArr Z h134 b134 .int [(.int (0 : Int32)), (.int (0 : Int32)), (.int (0 : Int32)), (.int (0 : Int32)), (.int (0 : Int32)), (.int (0 : Int32)), (.int (0 : Int32)), (.int (0 : Int32))] := V_b134
      refine Own.aload X134 hx (pc := 313) (hb hby at_313) rfl rfl ?_
      refine Own.iconst X134 hx (pc := 315) (4 : Int32) (hb hby at_315) (by decide) ?_
      refine Own.newarr X134 hx hZ (pc := 316) (aty := .int) (Wd hw 0 rfl) e134 (hb hby at_316) (by decide) 4 4 (by decide) (by decide) (by decide) (by decide) (by decide) ?_
      intro T135 h135 b135 g135 X135 e135 Ex135 V_b135
      have ne_b9_b135 : b9 ≠ b135 := Nat.ne_of_lt (g135 ▸ V_b9.lt)
      have ne_b125_b135 : b125 ≠ b135 := Nat.ne_of_lt (g135 ▸ V_b125.lt)
      have ne_b132_b135 : b132 ≠ b135 := Nat.ne_of_lt (g135 ▸ E_b132.lt)
      have ne_b133_b135 : b133 ≠ b135 := Nat.ne_of_lt (g135 ▸ V_b133.lt)
      have ne_b134_b135 : b134 ≠ b135 := Nat.ne_of_lt (g135 ▸ V_b134.lt)
      have V_b9 := V_b9.ext Ex135
      have V_b125 := V_b125.ext Ex135
      have E_b132 := Exa.ext Ex135 E_b132
      have F_b132_heads := Fld.ext Ex135 F_b132_heads
      have F_b132_starts := Fld.ext Ex135 F_b132_starts
      have F_b132_arcs := Fld.ext Ex135 F_b132_arcs
      have F_b132_shortened := Fld.ext Ex135 F_b132_shortened
      have F_b132_lengthsBefore := Fld.ext Ex135 F_b132_lengthsBefore
      have V_b133 := V_b133.ext Ex135
      have V_b134 := V_b134.ext Ex135
      have ge_b135 : n0 ≤ b135 := g135 ▸ sz134
      have sz135 : n0 ≤ h135.size := Nat.le_trans sz134 Ex135.1
      replace V_b135 : Own.VArr Z h135 b135 .int [(.int (0 : Int32)), (.int (0 : Int32)), (.int (0 : Int32)), (.int (0 : Int32))] := V_b135
      refine Own.callSpecial X135 hx hZ (pc := 318) (y := (⟨"com/example/hopwise/hopwise/paths/ArcChanges", "<init>", "([I[I[I[I[I)V"⟩ : MethodName)) rfl hown (Wd hw 4 rfl) (Wd hw 5 rfl) (Wd hw 3 rfl) (Wd hw 6 rfl) (by decide) 1 b132 [(.ref b133), (.ref b9), (.ref b134), (.ref b125), (.ref b135)] [(.ref b132)] (rm1 l Z a0 hw b132 b133 b9 b134 b125 b135 h135 n0 sz135 E_b132 F_b132_heads F_b132_starts F_b132_arcs F_b132_shortened F_b132_lengthsBefore ge_b132) (by decide) (by decide) e135 (by rw [hml]; rfl) pd4 rfl rfl (Nat.le_of_eq rfl) (hb hby at_318) (by decide) (by decide) ?_
      intro T136 L136 v136 X136 hQ136
      obtain ⟨rfl, Nq136, K136, F_b132_starts', F_b132_shortened'⟩ := hQ136
      have e136 : T136.heap = T136.heap := rfl
      have V_b9 := V_b9.keep K136 (ninS ne_b9_b132 nin0)
      have V_b125 := V_b125.keep K136 (ninS ne_b125_b132 nin0)
      have E_b132 := E_b132.keep K136
      have V_b133 := V_b133.keep K136 (ninS (Ne.symm ne_b132_b133) nin0)
      have V_b134 := V_b134.keep K136 (ninS (Ne.symm ne_b132_b134) nin0)
      have V_b135 := V_b135.keep K136 (ninS (Ne.symm ne_b132_b135) nin0)
      have sz136 : n0 ≤ T136.heap.size := Nat.le_trans sz135 K136.1
      have F_b132_starts := F_b132_starts'
      have F_b132_shortened := F_b132_shortened'
      have N136 := Fr.app N129 Nq136
      show Own.Go p e below _ (T136.setTop (mkF m 321 #[.val (.int a), .val (.int b), .val (.int c0), .val (.int s1), .val (.int s2), .val (.int s3), .val (.int s4), .val (.int s5), .val (.int s6), .val (.int s7), .val (.int s8), .val (.ref b9), .val (.int (4 : Int32)), .val (.int p19), .val (.int p20), .val (.int p21), .val (.int p22), .val (.ref b125), .val (.int nd131), .unset, .unset, .unset] [(.ref b132)]))
      refine Own.astore X136 hx (pc := 321) #[.val (.int a), .val (.int b), .val (.int c0), .val (.int s1), .val (.int s2), .val (.int s3), .val (.int s4), .val (.int s5), .val (.int s6), .val (.int s7), .val (.int s8), .val (.ref b9), .val (.int (4 : Int32)), .val (.int p19), .val (.int p20), .val (.int p21), .val (.int p22), .val (.ref b125), .val (.int nd131), .val (.ref b132), .unset, .unset] (hb hby at_321) rfl rfl ?_
      refine Own.aload X136 hx (pc := 323) (hb hby at_323) rfl rfl ?_
      refine Own.iload X136 hx (pc := 325) (hb hby at_325) rfl ?_
      refine Own.callVirtual X136 hx hZ (pc := 327) (y := (⟨"com/example/hopwise/hopwise/paths/ArcChanges", "firstShortenedOutOf", "(I)I"⟩ : MethodName)) (z := (⟨"com/example/hopwise/hopwise/paths/ArcChanges", "firstShortenedOutOf", "(I)I"⟩ : MethodName)) hown (Wd hw 25 rfl) (Wd hw 26 rfl) (Wd hw 28 rfl) (Wd hw 27 rfl) (Wd hw 3 rfl) (Wd hw 29 rfl) (Wd hw 28 rfl) (by decide) 0 b132 [(.int nd131)] [] E_b132 (rm4_4 l Z a0 hw b132 nd131 b9 b125 ([(.int s1), (.int s2), (.int s3), (.int s4), (.int s5), (.int s6), (.int s7), (.int s8)]) p19 p20 p21 p22 (if p19.toInt = 0 then s1 else s2) (if p20.toInt = 2 then s3 else s4) (if p21.toInt = 4 then s5 else s6) (if p22.toInt = 6 then s7 else s8) T136.heap n0 sz136 F_b132_starts F_b132_shortened V_b9 V_b125 (own_ge hp0 (by decide)) (own_pick (K := 0) hp0 rfl rfl) (own_ge hp1 (by decide)) (own_pick (K := 2) hp1 rfl rfl) (own_ge hp2 (by decide)) (own_pick (K := 4) hp2 rfl rfl) (own_ge hp3 (by decide)) (own_pick (K := 6) hp3 rfl rfl) (own_mono (by omega) (by omega) (by omega) (by omega)) (own_mono (by omega) (by omega) (by omega) (by omega)) (own_mono (by omega) (by omega) (by omega) (by omega)) (own_mono (by omega) (by omega) (by omega) (by omega)) (own_mono (by omega) (by omega) (by omega) (by omega)) (own_mono (by omega) (by omega) (by omega) (by omega))) (by decide) (by decide) e136 (by rw [hml]; rfl) pd5 rfl rfl (Nat.le_of_eq rfl) (hb hby at_327) (by decide) (by decide) ?_
      intro T137 L137 v137 X137 hQ137
      obtain ⟨rfl, Nq137, e137⟩ := hQ137
      have N137 := Fr.app N136 Nq137
      show Own.Go p e below _ (T137.setTop (mkF m 330 #[.val (.int a), .val (.int b), .val (.int c0), .val (.int s1), .val (.int s2), .val (.int s3), .val (.int s4), .val (.int s5), .val (.int s6), .val (.int s7), .val (.int s8), .val (.ref b9), .val (.int (4 : Int32)), .val (.int p19), .val (.int p20), .val (.int p21), .val (.int p22), .val (.ref b125), .val (.int nd131), .val (.ref b132), .unset, .unset] [(.int ((((if (if p19.toInt = 0 then s1 else s2) < nd131 then (1 : Int32) else 0) + (if (if p20.toInt = 2 then s3 else s4) < nd131 then (1 : Int32) else 0)) + (if (if p21.toInt = 4 then s5 else s6) < nd131 then (1 : Int32) else 0)) + (if (if p22.toInt = 6 then s7 else s8) < nd131 then (1 : Int32) else 0)))]))
      refine Own.istore X137 hx (pc := 330) #[.val (.int a), .val (.int b), .val (.int c0), .val (.int s1), .val (.int s2), .val (.int s3), .val (.int s4), .val (.int s5), .val (.int s6), .val (.int s7), .val (.int s8), .val (.ref b9), .val (.int (4 : Int32)), .val (.int p19), .val (.int p20), .val (.int p21), .val (.int p22), .val (.ref b125), .val (.int nd131), .val (.ref b132), .val (.int ((((if (if p19.toInt = 0 then s1 else s2) < nd131 then (1 : Int32) else 0) + (if (if p20.toInt = 2 then s3 else s4) < nd131 then (1 : Int32) else 0)) + (if (if p21.toInt = 4 then s5 else s6) < nd131 then (1 : Int32) else 0)) + (if (if p22.toInt = 6 then s7 else s8) < nd131 then (1 : Int32) else 0))), .unset] (hb hby at_330) rfl ?_
      refine Own.iload X137 hx (pc := 332) (hb hby at_332) rfl ?_
      refine Own.iconst X137 hx (pc := 334) (0 : Int32) (hb hby at_334) (by decide) ?_
      refine Own.aload X137 hx (pc := 335) (hb hby at_335) rfl rfl ?_
      refine Own.iload X137 hx (pc := 337) (hb hby at_337) rfl ?_
      refine Own.iaload X137 hx hZ (pc := 339) e137 V_b9 (v := (.int (if p19.toInt = 0 then s1 else s2))) p19.toNatClampNeg (own_ge hp0 (by decide)) rfl (own_pick (K := 0) hp0 rfl rfl) (hb hby at_339) ?_
      refine Own.iload X137 hx (pc := 340) (hb hby at_340) rfl ?_
      refine Own.callStatic X137 hx hZ (pc := 342) (y := (⟨"com/example/hopwise/hopwise/paths/ArcChangesFirstShortenedOutOfPinLaw", "below", "(IIII)I"⟩ : MethodName)) hown (Wd hw 30 rfl) (Wd hw 31 rfl) (Wd hw 32 rfl) (Wd hw 33 rfl) (by decide) 0 [(.int (4 : Int32)), (.int (0 : Int32)), (.int (if p19.toInt = 0 then s1 else s2)), (.int nd131)] [] (rm5 l Z a0 hw (4 : Int32) (0 : Int32) (if p19.toInt = 0 then s1 else s2) nd131 T136.heap n0 sz136 ) (by decide) (by decide) e137 (by rw [hml]; rfl) pd6 rfl rfl (Nat.le_of_eq rfl) (hb hby at_342) (by decide) (by decide) ?_
      intro T138 L138 v138 X138 hQ138
      obtain ⟨rfl, Nq138, e138⟩ := hQ138
      have N138 := Fr.app N137 Nq138
      show Own.Go p e below _ (T138.setTop (mkF m 345 #[.val (.int a), .val (.int b), .val (.int c0), .val (.int s1), .val (.int s2), .val (.int s3), .val (.int s4), .val (.int s5), .val (.int s6), .val (.int s7), .val (.int s8), .val (.ref b9), .val (.int (4 : Int32)), .val (.int p19), .val (.int p20), .val (.int p21), .val (.int p22), .val (.ref b125), .val (.int nd131), .val (.ref b132), .val (.int ((((if (if p19.toInt = 0 then s1 else s2) < nd131 then (1 : Int32) else 0) + (if (if p20.toInt = 2 then s3 else s4) < nd131 then (1 : Int32) else 0)) + (if (if p21.toInt = 4 then s5 else s6) < nd131 then (1 : Int32) else 0)) + (if (if p22.toInt = 6 then s7 else s8) < nd131 then (1 : Int32) else 0))), .unset] [(.int (if ((0 : Int32) < (4 : Int32) ∧ (if p19.toInt = 0 then s1 else s2) < nd131) then (1 : Int32) else 0))]))
      refine Own.iload X138 hx (pc := 345) (hb hby at_345) rfl ?_
      refine Own.iconst X138 hx (pc := 347) (1 : Int32) (hb hby at_347) (by decide) ?_
      refine Own.aload X138 hx (pc := 348) (hb hby at_348) rfl rfl ?_
      refine Own.iload X138 hx (pc := 350) (hb hby at_350) rfl ?_
      refine Own.iaload X138 hx hZ (pc := 352) e138 V_b9 (v := (.int (if p20.toInt = 2 then s3 else s4))) p20.toNatClampNeg (own_ge hp1 (by decide)) rfl (own_pick (K := 2) hp1 rfl rfl) (hb hby at_352) ?_
      refine Own.iload X138 hx (pc := 353) (hb hby at_353) rfl ?_
      refine Own.callStatic X138 hx hZ (pc := 355) (y := (⟨"com/example/hopwise/hopwise/paths/ArcChangesFirstShortenedOutOfPinLaw", "below", "(IIII)I"⟩ : MethodName)) hown (Wd hw 30 rfl) (Wd hw 31 rfl) (Wd hw 32 rfl) (Wd hw 33 rfl) (by decide) 1 [(.int (4 : Int32)), (.int (1 : Int32)), (.int (if p20.toInt = 2 then s3 else s4)), (.int nd131)] [(.int (if ((0 : Int32) < (4 : Int32) ∧ (if p19.toInt = 0 then s1 else s2) < nd131) then (1 : Int32) else 0))] (rm5 l Z a0 hw (4 : Int32) (1 : Int32) (if p20.toInt = 2 then s3 else s4) nd131 T136.heap n0 sz136 ) (by decide) (by decide) e138 (by rw [hml]; rfl) pd6 rfl rfl (Nat.le_of_eq rfl) (hb hby at_355) (by decide) (by decide) ?_
      intro T139 L139 v139 X139 hQ139
      obtain ⟨rfl, Nq139, e139⟩ := hQ139
      have N139 := Fr.app N138 Nq139
      show Own.Go p e below _ (T139.setTop (mkF m 358 #[.val (.int a), .val (.int b), .val (.int c0), .val (.int s1), .val (.int s2), .val (.int s3), .val (.int s4), .val (.int s5), .val (.int s6), .val (.int s7), .val (.int s8), .val (.ref b9), .val (.int (4 : Int32)), .val (.int p19), .val (.int p20), .val (.int p21), .val (.int p22), .val (.ref b125), .val (.int nd131), .val (.ref b132), .val (.int ((((if (if p19.toInt = 0 then s1 else s2) < nd131 then (1 : Int32) else 0) + (if (if p20.toInt = 2 then s3 else s4) < nd131 then (1 : Int32) else 0)) + (if (if p21.toInt = 4 then s5 else s6) < nd131 then (1 : Int32) else 0)) + (if (if p22.toInt = 6 then s7 else s8) < nd131 then (1 : Int32) else 0))), .unset] [(.int (if ((1 : Int32) < (4 : Int32) ∧ (if p20.toInt = 2 then s3 else s4) < nd131) then (1 : Int32) else 0)), (.int (if ((0 : Int32) < (4 : Int32) ∧ (if p19.toInt = 0 then s1 else s2) < nd131) then (1 : Int32) else 0))]))
      refine Own.iadd X139 hx (pc := 358) (hb hby at_358) ?_
      refine Own.iload X139 hx (pc := 359) (hb hby at_359) rfl ?_
      refine Own.iconst X139 hx (pc := 361) (2 : Int32) (hb hby at_361) (by decide) ?_
      refine Own.aload X139 hx (pc := 362) (hb hby at_362) rfl rfl ?_
      refine Own.iload X139 hx (pc := 364) (hb hby at_364) rfl ?_
      refine Own.iaload X139 hx hZ (pc := 366) e139 V_b9 (v := (.int (if p21.toInt = 4 then s5 else s6))) p21.toNatClampNeg (own_ge hp2 (by decide)) rfl (own_pick (K := 4) hp2 rfl rfl) (hb hby at_366) ?_
      refine Own.iload X139 hx (pc := 367) (hb hby at_367) rfl ?_
      refine Own.callStatic X139 hx hZ (pc := 369) (y := (⟨"com/example/hopwise/hopwise/paths/ArcChangesFirstShortenedOutOfPinLaw", "below", "(IIII)I"⟩ : MethodName)) hown (Wd hw 30 rfl) (Wd hw 31 rfl) (Wd hw 32 rfl) (Wd hw 33 rfl) (by decide) 1 [(.int (4 : Int32)), (.int (2 : Int32)), (.int (if p21.toInt = 4 then s5 else s6)), (.int nd131)] [(.int ((if ((0 : Int32) < (4 : Int32) ∧ (if p19.toInt = 0 then s1 else s2) < nd131) then (1 : Int32) else 0) + (if ((1 : Int32) < (4 : Int32) ∧ (if p20.toInt = 2 then s3 else s4) < nd131) then (1 : Int32) else 0)))] (rm5 l Z a0 hw (4 : Int32) (2 : Int32) (if p21.toInt = 4 then s5 else s6) nd131 T136.heap n0 sz136 ) (by decide) (by decide) e139 (by rw [hml]; rfl) pd6 rfl rfl (Nat.le_of_eq rfl) (hb hby at_369) (by decide) (by decide) ?_
      intro T140 L140 v140 X140 hQ140
      obtain ⟨rfl, Nq140, e140⟩ := hQ140
      have N140 := Fr.app N139 Nq140
      show Own.Go p e below _ (T140.setTop (mkF m 372 #[.val (.int a), .val (.int b), .val (.int c0), .val (.int s1), .val (.int s2), .val (.int s3), .val (.int s4), .val (.int s5), .val (.int s6), .val (.int s7), .val (.int s8), .val (.ref b9), .val (.int (4 : Int32)), .val (.int p19), .val (.int p20), .val (.int p21), .val (.int p22), .val (.ref b125), .val (.int nd131), .val (.ref b132), .val (.int ((((if (if p19.toInt = 0 then s1 else s2) < nd131 then (1 : Int32) else 0) + (if (if p20.toInt = 2 then s3 else s4) < nd131 then (1 : Int32) else 0)) + (if (if p21.toInt = 4 then s5 else s6) < nd131 then (1 : Int32) else 0)) + (if (if p22.toInt = 6 then s7 else s8) < nd131 then (1 : Int32) else 0))), .unset] [(.int (if ((2 : Int32) < (4 : Int32) ∧ (if p21.toInt = 4 then s5 else s6) < nd131) then (1 : Int32) else 0)), (.int ((if ((0 : Int32) < (4 : Int32) ∧ (if p19.toInt = 0 then s1 else s2) < nd131) then (1 : Int32) else 0) + (if ((1 : Int32) < (4 : Int32) ∧ (if p20.toInt = 2 then s3 else s4) < nd131) then (1 : Int32) else 0)))]))
      refine Own.iadd X140 hx (pc := 372) (hb hby at_372) ?_
      refine Own.iload X140 hx (pc := 373) (hb hby at_373) rfl ?_
      refine Own.iconst X140 hx (pc := 375) (3 : Int32) (hb hby at_375) (by decide) ?_
      refine Own.aload X140 hx (pc := 376) (hb hby at_376) rfl rfl ?_
      refine Own.iload X140 hx (pc := 378) (hb hby at_378) rfl ?_
      refine Own.iaload X140 hx hZ (pc := 380) e140 V_b9 (v := (.int (if p22.toInt = 6 then s7 else s8))) p22.toNatClampNeg (own_ge hp3 (by decide)) rfl (own_pick (K := 6) hp3 rfl rfl) (hb hby at_380) ?_
      refine Own.iload X140 hx (pc := 381) (hb hby at_381) rfl ?_
      refine Own.callStatic X140 hx hZ (pc := 383) (y := (⟨"com/example/hopwise/hopwise/paths/ArcChangesFirstShortenedOutOfPinLaw", "below", "(IIII)I"⟩ : MethodName)) hown (Wd hw 30 rfl) (Wd hw 31 rfl) (Wd hw 32 rfl) (Wd hw 33 rfl) (by decide) 1 [(.int (4 : Int32)), (.int (3 : Int32)), (.int (if p22.toInt = 6 then s7 else s8)), (.int nd131)] [(.int (((if ((0 : Int32) < (4 : Int32) ∧ (if p19.toInt = 0 then s1 else s2) < nd131) then (1 : Int32) else 0) + (if ((1 : Int32) < (4 : Int32) ∧ (if p20.toInt = 2 then s3 else s4) < nd131) then (1 : Int32) else 0)) + (if ((2 : Int32) < (4 : Int32) ∧ (if p21.toInt = 4 then s5 else s6) < nd131) then (1 : Int32) else 0)))] (rm5 l Z a0 hw (4 : Int32) (3 : Int32) (if p22.toInt = 6 then s7 else s8) nd131 T136.heap n0 sz136 ) (by decide) (by decide) e140 (by rw [hml]; rfl) pd6 rfl rfl (Nat.le_of_eq rfl) (hb hby at_383) (by decide) (by decide) ?_
      intro T141 L141 v141 X141 hQ141
      obtain ⟨rfl, Nq141, e141⟩ := hQ141
      have N141 := Fr.app N140 Nq141
      show Own.Go p e below _ (T141.setTop (mkF m 386 #[.val (.int a), .val (.int b), .val (.int c0), .val (.int s1), .val (.int s2), .val (.int s3), .val (.int s4), .val (.int s5), .val (.int s6), .val (.int s7), .val (.int s8), .val (.ref b9), .val (.int (4 : Int32)), .val (.int p19), .val (.int p20), .val (.int p21), .val (.int p22), .val (.ref b125), .val (.int nd131), .val (.ref b132), .val (.int ((((if (if p19.toInt = 0 then s1 else s2) < nd131 then (1 : Int32) else 0) + (if (if p20.toInt = 2 then s3 else s4) < nd131 then (1 : Int32) else 0)) + (if (if p21.toInt = 4 then s5 else s6) < nd131 then (1 : Int32) else 0)) + (if (if p22.toInt = 6 then s7 else s8) < nd131 then (1 : Int32) else 0))), .unset] [(.int (if ((3 : Int32) < (4 : Int32) ∧ (if p22.toInt = 6 then s7 else s8) < nd131) then (1 : Int32) else 0)), (.int (((if ((0 : Int32) < (4 : Int32) ∧ (if p19.toInt = 0 then s1 else s2) < nd131) then (1 : Int32) else 0) + (if ((1 : Int32) < (4 : Int32) ∧ (if p20.toInt = 2 then s3 else s4) < nd131) then (1 : Int32) else 0)) + (if ((2 : Int32) < (4 : Int32) ∧ (if p21.toInt = 4 then s5 else s6) < nd131) then (1 : Int32) else 0)))]))
      refine Own.iadd X141 hx (pc := 386) (hb hby at_386) ?_
      refine Own.istore X141 hx (pc := 387) #[.val (.int a), .val (.int b), .val (.int c0), .val (.int s1), .val (.int s2), .val (.int s3), .val (.int s4), .val (.int s5), .val (.int s6), .val (.int s7), .val (.int s8), .val (.ref b9), .val (.int (4 : Int32)), .val (.int p19), .val (.int p20), .val (.int p21), .val (.int p22), .val (.ref b125), .val (.int nd131), .val (.ref b132), .val (.int ((((if (if p19.toInt = 0 then s1 else s2) < nd131 then (1 : Int32) else 0) + (if (if p20.toInt = 2 then s3 else s4) < nd131 then (1 : Int32) else 0)) + (if (if p21.toInt = 4 then s5 else s6) < nd131 then (1 : Int32) else 0)) + (if (if p22.toInt = 6 then s7 else s8) < nd131 then (1 : Int32) else 0))), .val (.int ((((if ((0 : Int32) < (4 : Int32) ∧ (if p19.toInt = 0 then s1 else s2) < nd131) then (1 : Int32) else 0) + (if ((1 : Int32) < (4 : Int32) ∧ (if p20.toInt = 2 then s3 else s4) < nd131) then (1 : Int32) else 0)) + (if ((2 : Int32) < (4 : Int32) ∧ (if p21.toInt = 4 then s5 else s6) < nd131) then (1 : Int32) else 0)) + (if ((3 : Int32) < (4 : Int32) ∧ (if p22.toInt = 6 then s7 else s8) < nd131) then (1 : Int32) else 0)))] (hb hby at_387) rfl ?_
      refine Own.iload X141 hx (pc := 389) (hb hby at_389) rfl ?_
      refine Own.iload X141 hx (pc := 391) (hb hby at_391) rfl ?_
      refine Own.icmpNo X141 hx (pc := 393) (hb hby at_393) (XT.ii_ne_f (by simp)) ?_
      refine Own.iconst X141 hx (pc := 396) (1 : Int32) (hb hby at_396) (by decide) ?_
      refine Own.goto X141 hx (pc := 397) 401 (hb hby at_397) (by decide) (by decide) ?_
      exact Own.ireturn X141 hx hk hret (by simp) rfl (hb hby at_401) e141 ⟨rfl, N141⟩ (by decide) (by decide)
    · refine Own.ifNo X129 hx (pc := 283) (hb hby at_283) (XT.i0_eq_f c130) ?_
      refine Own.iloadN X129 hx (pc := 286) (hb hby at_286) rfl ?_
      refine Own.iconst X129 hx (pc := 287) (1 : Int32) (hb hby at_287) (by decide) ?_
      refine Own.ishr X129 hx (pc := 288) (hb hby at_288) ?_
      refine Own.goto X129 hx (pc := 289) 298 (hb hby at_289) (by decide) (by decide) ?_
      generalize qnd142 : (c0 >>> ((1 : Int32) &&& 31)) = nd142
      refine Own.istore X129 hx (pc := 298) #[.val (.int a), .val (.int b), .val (.int c0), .val (.int s1), .val (.int s2), .val (.int s3), .val (.int s4), .val (.int s5), .val (.int s6), .val (.int s7), .val (.int s8), .val (.ref b9), .val (.int (4 : Int32)), .val (.int p19), .val (.int p20), .val (.int p21), .val (.int p22), .val (.ref b125), .val (.int nd142), .unset, .unset, .unset] (hb hby at_298) rfl ?_
      refine Own.newobj X129 hx hZ (pc := 300) hown (Wd hw 1 rfl) (Wd hw 2 rfl) (Wd hw 3 rfl) e129 (hb hby at_300) (by decide) (by decide) ?_
      intro T143 h143 b143 g143 X143 e143 Ex143 E_b143 D143
      have ne_b9_b143 : b9 ≠ b143 := Nat.ne_of_lt (g143 ▸ V_b9.lt)
      have ne_b125_b143 : b125 ≠ b143 := Nat.ne_of_lt (g143 ▸ V_b125.lt)
      have V_b9 := V_b9.ext Ex143
      have V_b125 := V_b125.ext Ex143
      have ge_b143 : n0 ≤ b143 := g143 ▸ sz129
      have sz143 : n0 ≤ h143.size := Nat.le_trans sz129 Ex143.1
      have F_b143_heads : Fld Z h143 b143 "com/example/hopwise/hopwise/paths/ArcChanges" "heads" "[I" .null := D143 (Or.inr (Wd hw 16 rfl)) (ty := (.array .int)) (by decide)
      have F_b143_starts : Fld Z h143 b143 "com/example/hopwise/hopwise/paths/ArcChanges" "starts" "[I" .null := D143 (Or.inr (Wd hw 18 rfl)) (ty := (.array .int)) (by decide)
      have F_b143_arcs : Fld Z h143 b143 "com/example/hopwise/hopwise/paths/ArcChanges" "arcs" "[I" .null := D143 (Or.inr (Wd hw 20 rfl)) (ty := (.array .int)) (by decide)
      have F_b143_shortened : Fld Z h143 b143 "com/example/hopwise/hopwise/paths/ArcChanges" "shortened" "[I" .null := D143 (Or.inr (Wd hw 22 rfl)) (ty := (.array .int)) (by decide)
      have F_b143_lengthsBefore : Fld Z h143 b143 "com/example/hopwise/hopwise/paths/ArcChanges" "lengthsBefore" "[I" .null := D143 (Or.inr (Wd hw 24 rfl)) (ty := (.array .int)) (by decide)
      refine Own.dup X143 hx (pc := 303) (hb hby at_303) rfl ?_
      refine Own.iconst X143 hx (pc := 304) (0 : Int32) (hb hby at_304) (by decide) ?_
      refine Own.newarr X143 hx hZ (pc := 305) (aty := .int) (Wd hw 0 rfl) e143 (hb hby at_305) (by decide) 0 0 (by decide) (by decide) (by decide) (by decide) (by decide) ?_
      intro T144 h144 b144 g144 X144 e144 Ex144 V_b144
      have ne_b9_b144 : b9 ≠ b144 := Nat.ne_of_lt (g144 ▸ V_b9.lt)
      have ne_b125_b144 : b125 ≠ b144 := Nat.ne_of_lt (g144 ▸ V_b125.lt)
      have ne_b143_b144 : b143 ≠ b144 := Nat.ne_of_lt (g144 ▸ E_b143.lt)
      have V_b9 := V_b9.ext Ex144
      have V_b125 := V_b125.ext Ex144
      have E_b143 := Exa.ext Ex144 E_b143
      have F_b143_heads := Fld.ext Ex144 F_b143_heads
      have F_b143_starts := Fld.ext Ex144 F_b143_starts
      have F_b143_arcs := Fld.ext Ex144 F_b143_arcs
      have F_b143_shortened := Fld.ext Ex144 F_b143_shortened
      have F_b143_lengthsBefore := Fld.ext Ex144 F_b143_lengthsBefore
      have ge_b144 : n0 ≤ b144 := g144 ▸ sz143
      have sz144 : n0 ≤ h144.size := Nat.le_trans sz143 Ex144.1
      replace V_b144 : Own.VArr Z h144 b144 .int ([] : List Value) := V_b144
      refine Own.aload X144 hx (pc := 307) (hb hby at_307) rfl rfl ?_
      refine Own.bipush X144 hx (pc := 309) (8 : Int32) (hb hby at_309) (by decide) ?_
      refine Own.newarr X144 hx hZ (pc := 311) (aty := .int) (Wd hw 0 rfl) e144 (hb hby at_311) (by decide) 8 8 (by decide) (by decide) (by decide) (by decide) (by decide) ?_
      intro T145 h145 b145 g145 X145 e145 Ex145 V_b145
      have ne_b9_b145 : b9 ≠ b145 := Nat.ne_of_lt (g145 ▸ V_b9.lt)
      have ne_b125_b145 : b125 ≠ b145 := Nat.ne_of_lt (g145 ▸ V_b125.lt)
      have ne_b143_b145 : b143 ≠ b145 := Nat.ne_of_lt (g145 ▸ E_b143.lt)
      have ne_b144_b145 : b144 ≠ b145 := Nat.ne_of_lt (g145 ▸ V_b144.lt)
      have V_b9 := V_b9.ext Ex145
      have V_b125 := V_b125.ext Ex145
      have E_b143 := Exa.ext Ex145 E_b143
      have F_b143_heads := Fld.ext Ex145 F_b143_heads
      have F_b143_starts := Fld.ext Ex145 F_b143_starts
      have F_b143_arcs := Fld.ext Ex145 F_b143_arcs
      have F_b143_shortened := Fld.ext Ex145 F_b143_shortened
      have F_b143_lengthsBefore := Fld.ext Ex145 F_b143_lengthsBefore
      have V_b144 := V_b144.ext Ex145
      have ge_b145 : n0 ≤ b145 := g145 ▸ sz144
      have sz145 : n0 ≤ h145.size := Nat.le_trans sz144 Ex145.1
      replace V_b145 : Own.VArr Z h145 b145 .int [(.int (0 : Int32)), (.int (0 : Int32)), (.int (0 : Int32)), (.int (0 : Int32)), (.int (0 : Int32)), (.int (0 : Int32)), (.int (0 : Int32)), (.int (0 : Int32))] := V_b145
      refine Own.aload X145 hx (pc := 313) (hb hby at_313) rfl rfl ?_
      refine Own.iconst X145 hx (pc := 315) (4 : Int32) (hb hby at_315) (by decide) ?_
      refine Own.newarr X145 hx hZ (pc := 316) (aty := .int) (Wd hw 0 rfl) e145 (hb hby at_316) (by decide) 4 4 (by decide) (by decide) (by decide) (by decide) (by decide) ?_
      intro T146 h146 b146 g146 X146 e146 Ex146 V_b146
      have ne_b9_b146 : b9 ≠ b146 := Nat.ne_of_lt (g146 ▸ V_b9.lt)
      have ne_b125_b146 : b125 ≠ b146 := Nat.ne_of_lt (g146 ▸ V_b125.lt)
      have ne_b143_b146 : b143 ≠ b146 := Nat.ne_of_lt (g146 ▸ E_b143.lt)
      have ne_b144_b146 : b144 ≠ b146 := Nat.ne_of_lt (g146 ▸ V_b144.lt)
      have ne_b145_b146 : b145 ≠ b146 := Nat.ne_of_lt (g146 ▸ V_b145.lt)
      have V_b9 := V_b9.ext Ex146
      have V_b125 := V_b125.ext Ex146
      have E_b143 := Exa.ext Ex146 E_b143
      have F_b143_heads := Fld.ext Ex146 F_b143_heads
      have F_b143_starts := Fld.ext Ex146 F_b143_starts
      have F_b143_arcs := Fld.ext Ex146 F_b143_arcs
      have F_b143_shortened := Fld.ext Ex146 F_b143_shortened
      have F_b143_lengthsBefore := Fld.ext Ex146 F_b143_lengthsBefore
      have V_b144 := V_b144.ext Ex146
      have V_b145 := V_b145.ext Ex146
      have ge_b146 : n0 ≤ b146 := g146 ▸ sz145
      have sz146 : n0 ≤ h146.size := Nat.le_trans sz145 Ex146.1
      replace V_b146 : Own.VArr Z h146 b146 .int [(.int (0 : Int32)), (.int (0 : Int32)), (.int (0 : Int32)), (.int (0 : Int32))] := V_b146
      refine Own.callSpecial X146 hx hZ (pc := 318) (y := (⟨"com/example/hopwise/hopwise/paths/ArcChanges", "<init>", "([I[I[I[I[I)V"⟩ : MethodName)) rfl hown (Wd hw 4 rfl) (Wd hw 5 rfl) (Wd hw 3 rfl) (Wd hw 6 rfl) (by decide) 1 b143 [(.ref b144), (.ref b9), (.ref b145), (.ref b125), (.ref b146)] [(.ref b143)] (rm1 l Z a0 hw b143 b144 b9 b145 b125 b146 h146 n0 sz146 E_b143 F_b143_heads F_b143_starts F_b143_arcs F_b143_shortened F_b143_lengthsBefore ge_b143) (by decide) (by decide) e146 (by rw [hml]; rfl) pd4 rfl rfl (Nat.le_of_eq rfl) (hb hby at_318) (by decide) (by decide) ?_
      intro T147 L147 v147 X147 hQ147
      obtain ⟨rfl, Nq147, K147, F_b143_starts', F_b143_shortened'⟩ := hQ147
      have e147 : T147.heap = T147.heap := rfl
      have V_b9 := V_b9.keep K147 (ninS ne_b9_b143 nin0)
      have V_b125 := V_b125.keep K147 (ninS ne_b125_b143 nin0)
      have E_b143 := E_b143.keep K147
      have V_b144 := V_b144.keep K147 (ninS (Ne.symm ne_b143_b144) nin0)
      have V_b145 := V_b145.keep K147 (ninS (Ne.symm ne_b143_b145) nin0)
      have V_b146 := V_b146.keep K147 (ninS (Ne.symm ne_b143_b146) nin0)
      have sz147 : n0 ≤ T147.heap.size := Nat.le_trans sz146 K147.1
      have F_b143_starts := F_b143_starts'
      have F_b143_shortened := F_b143_shortened'
      have N147 := Fr.app N129 Nq147
      show Own.Go p e below _ (T147.setTop (mkF m 321 #[.val (.int a), .val (.int b), .val (.int c0), .val (.int s1), .val (.int s2), .val (.int s3), .val (.int s4), .val (.int s5), .val (.int s6), .val (.int s7), .val (.int s8), .val (.ref b9), .val (.int (4 : Int32)), .val (.int p19), .val (.int p20), .val (.int p21), .val (.int p22), .val (.ref b125), .val (.int nd142), .unset, .unset, .unset] [(.ref b143)]))
      refine Own.astore X147 hx (pc := 321) #[.val (.int a), .val (.int b), .val (.int c0), .val (.int s1), .val (.int s2), .val (.int s3), .val (.int s4), .val (.int s5), .val (.int s6), .val (.int s7), .val (.int s8), .val (.ref b9), .val (.int (4 : Int32)), .val (.int p19), .val (.int p20), .val (.int p21), .val (.int p22), .val (.ref b125), .val (.int nd142), .val (.ref b143), .unset, .unset] (hb hby at_321) rfl rfl ?_
      refine Own.aload X147 hx (pc := 323) (hb hby at_323) rfl rfl ?_
      refine Own.iload X147 hx (pc := 325) (hb hby at_325) rfl ?_
      refine Own.callVirtual X147 hx hZ (pc := 327) (y := (⟨"com/example/hopwise/hopwise/paths/ArcChanges", "firstShortenedOutOf", "(I)I"⟩ : MethodName)) (z := (⟨"com/example/hopwise/hopwise/paths/ArcChanges", "firstShortenedOutOf", "(I)I"⟩ : MethodName)) hown (Wd hw 25 rfl) (Wd hw 26 rfl) (Wd hw 28 rfl) (Wd hw 27 rfl) (Wd hw 3 rfl) (Wd hw 29 rfl) (Wd hw 28 rfl) (by decide) 0 b143 [(.int nd142)] [] E_b143 (rm4_4 l Z a0 hw b143 nd142 b9 b125 ([(.int s1), (.int s2), (.int s3), (.int s4), (.int s5), (.int s6), (.int s7), (.int s8)]) p19 p20 p21 p22 (if p19.toInt = 0 then s1 else s2) (if p20.toInt = 2 then s3 else s4) (if p21.toInt = 4 then s5 else s6) (if p22.toInt = 6 then s7 else s8) T147.heap n0 sz147 F_b143_starts F_b143_shortened V_b9 V_b125 (own_ge hp0 (by decide)) (own_pick (K := 0) hp0 rfl rfl) (own_ge hp1 (by decide)) (own_pick (K := 2) hp1 rfl rfl) (own_ge hp2 (by decide)) (own_pick (K := 4) hp2 rfl rfl) (own_ge hp3 (by decide)) (own_pick (K := 6) hp3 rfl rfl) (own_mono (by omega) (by omega) (by omega) (by omega)) (own_mono (by omega) (by omega) (by omega) (by omega)) (own_mono (by omega) (by omega) (by omega) (by omega)) (own_mono (by omega) (by omega) (by omega) (by omega)) (own_mono (by omega) (by omega) (by omega) (by omega)) (own_mono (by omega) (by omega) (by omega) (by omega))) (by decide) (by decide) e147 (by rw [hml]; rfl) pd5 rfl rfl (Nat.le_of_eq rfl) (hb hby at_327) (by decide) (by decide) ?_
      intro T148 L148 v148 X148 hQ148
      obtain ⟨rfl, Nq148, e148⟩ := hQ148
      have N148 := Fr.app N147 Nq148
      show Own.Go p e below _ (T148.setTop (mkF m 330 #[.val (.int a), .val (.int b), .val (.int c0), .val (.int s1), .val (.int s2), .val (.int s3), .val (.int s4), .val (.int s5), .val (.int s6), .val (.int s7), .val (.int s8), .val (.ref b9), .val (.int (4 : Int32)), .val (.int p19), .val (.int p20), .val (.int p21), .val (.int p22), .val (.ref b125), .val (.int nd142), .val (.ref b143), .unset, .unset] [(.int ((((if (if p19.toInt = 0 then s1 else s2) < nd142 then (1 : Int32) else 0) + (if (if p20.toInt = 2 then s3 else s4) < nd142 then (1 : Int32) else 0)) + (if (if p21.toInt = 4 then s5 else s6) < nd142 then (1 : Int32) else 0)) + (if (if p22.toInt = 6 then s7 else s8) < nd142 then (1 : Int32) else 0)))]))
      refine Own.istore X148 hx (pc := 330) #[.val (.int a), .val (.int b), .val (.int c0), .val (.int s1), .val (.int s2), .val (.int s3), .val (.int s4), .val (.int s5), .val (.int s6), .val (.int s7), .val (.int s8), .val (.ref b9), .val (.int (4 : Int32)), .val (.int p19), .val (.int p20), .val (.int p21), .val (.int p22), .val (.ref b125), .val (.int nd142), .val (.ref b143), .val (.int ((((if (if p19.toInt = 0 then s1 else s2) < nd142 then (1 : Int32) else 0) + (if (if p20.toInt = 2 then s3 else s4) < nd142 then (1 : Int32) else 0)) + (if (if p21.toInt = 4 then s5 else s6) < nd142 then (1 : Int32) else 0)) + (if (if p22.toInt = 6 then s7 else s8) < nd142 then (1 : Int32) else 0))), .unset] (hb hby at_330) rfl ?_
      refine Own.iload X148 hx (pc := 332) (hb hby at_332) rfl ?_
      refine Own.iconst X148 hx (pc := 334) (0 : Int32) (hb hby at_334) (by decide) ?_
      refine Own.aload X148 hx (pc := 335) (hb hby at_335) rfl rfl ?_
      refine Own.iload X148 hx (pc := 337) (hb hby at_337) rfl ?_
      refine Own.iaload X148 hx hZ (pc := 339) e148 V_b9 (v := (.int (if p19.toInt = 0 then s1 else s2))) p19.toNatClampNeg (own_ge hp0 (by decide)) rfl (own_pick (K := 0) hp0 rfl rfl) (hb hby at_339) ?_
      refine Own.iload X148 hx (pc := 340) (hb hby at_340) rfl ?_
      refine Own.callStatic X148 hx hZ (pc := 342) (y := (⟨"com/example/hopwise/hopwise/paths/ArcChangesFirstShortenedOutOfPinLaw", "below", "(IIII)I"⟩ : MethodName)) hown (Wd hw 30 rfl) (Wd hw 31 rfl) (Wd hw 32 rfl) (Wd hw 33 rfl) (by decide) 0 [(.int (4 : Int32)), (.int (0 : Int32)), (.int (if p19.toInt = 0 then s1 else s2)), (.int nd142)] [] (rm5 l Z a0 hw (4 : Int32) (0 : Int32) (if p19.toInt = 0 then s1 else s2) nd142 T147.heap n0 sz147 ) (by decide) (by decide) e148 (by rw [hml]; rfl) pd6 rfl rfl (Nat.le_of_eq rfl) (hb hby at_342) (by decide) (by decide) ?_
      intro T149 L149 v149 X149 hQ149
      obtain ⟨rfl, Nq149, e149⟩ := hQ149
      have N149 := Fr.app N148 Nq149
      show Own.Go p e below _ (T149.setTop (mkF m 345 #[.val (.int a), .val (.int b), .val (.int c0), .val (.int s1), .val (.int s2), .val (.int s3), .val (.int s4), .val (.int s5), .val (.int s6), .val (.int s7), .val (.int s8), .val (.ref b9), .val (.int (4 : Int32)), .val (.int p19), .val (.int p20), .val (.int p21), .val (.int p22), .val (.ref b125), .val (.int nd142), .val (.ref b143), .val (.int ((((if (if p19.toInt = 0 then s1 else s2) < nd142 then (1 : Int32) else 0) + (if (if p20.toInt = 2 then s3 else s4) < nd142 then (1 : Int32) else 0)) + (if (if p21.toInt = 4 then s5 else s6) < nd142 then (1 : Int32) else 0)) + (if (if p22.toInt = 6 then s7 else s8) < nd142 then (1 : Int32) else 0))), .unset] [(.int (if ((0 : Int32) < (4 : Int32) ∧ (if p19.toInt = 0 then s1 else s2) < nd142) then (1 : Int32) else 0))]))
      refine Own.iload X149 hx (pc := 345) (hb hby at_345) rfl ?_
      refine Own.iconst X149 hx (pc := 347) (1 : Int32) (hb hby at_347) (by decide) ?_
      refine Own.aload X149 hx (pc := 348) (hb hby at_348) rfl rfl ?_
      refine Own.iload X149 hx (pc := 350) (hb hby at_350) rfl ?_
      refine Own.iaload X149 hx hZ (pc := 352) e149 V_b9 (v := (.int (if p20.toInt = 2 then s3 else s4))) p20.toNatClampNeg (own_ge hp1 (by decide)) rfl (own_pick (K := 2) hp1 rfl rfl) (hb hby at_352) ?_
      refine Own.iload X149 hx (pc := 353) (hb hby at_353) rfl ?_
      refine Own.callStatic X149 hx hZ (pc := 355) (y := (⟨"com/example/hopwise/hopwise/paths/ArcChangesFirstShortenedOutOfPinLaw", "below", "(IIII)I"⟩ : MethodName)) hown (Wd hw 30 rfl) (Wd hw 31 rfl) (Wd hw 32 rfl) (Wd hw 33 rfl) (by decide) 1 [(.int (4 : Int32)), (.int (1 : Int32)), (.int (if p20.toInt = 2 then s3 else s4)), (.int nd142)] [(.int (if ((0 : Int32) < (4 : Int32) ∧ (if p19.toInt = 0 then s1 else s2) < nd142) then (1 : Int32) else 0))] (rm5 l Z a0 hw (4 : Int32) (1 : Int32) (if p20.toInt = 2 then s3 else s4) nd142 T147.heap n0 sz147 ) (by decide) (by decide) e149 (by rw [hml]; rfl) pd6 rfl rfl (Nat.le_of_eq rfl) (hb hby at_355) (by decide) (by decide) ?_
      intro T150 L150 v150 X150 hQ150
      obtain ⟨rfl, Nq150, e150⟩ := hQ150
      have N150 := Fr.app N149 Nq150
      show Own.Go p e below _ (T150.setTop (mkF m 358 #[.val (.int a), .val (.int b), .val (.int c0), .val (.int s1), .val (.int s2), .val (.int s3), .val (.int s4), .val (.int s5), .val (.int s6), .val (.int s7), .val (.int s8), .val (.ref b9), .val (.int (4 : Int32)), .val (.int p19), .val (.int p20), .val (.int p21), .val (.int p22), .val (.ref b125), .val (.int nd142), .val (.ref b143), .val (.int ((((if (if p19.toInt = 0 then s1 else s2) < nd142 then (1 : Int32) else 0) + (if (if p20.toInt = 2 then s3 else s4) < nd142 then (1 : Int32) else 0)) + (if (if p21.toInt = 4 then s5 else s6) < nd142 then (1 : Int32) else 0)) + (if (if p22.toInt = 6 then s7 else s8) < nd142 then (1 : Int32) else 0))), .unset] [(.int (if ((1 : Int32) < (4 : Int32) ∧ (if p20.toInt = 2 then s3 else s4) < nd142) then (1 : Int32) else 0)), (.int (if ((0 : Int32) < (4 : Int32) ∧ (if p19.toInt = 0 then s1 else s2) < nd142) then (1 : Int32) else 0))]))
      refine Own.iadd X150 hx (pc := 358) (hb hby at_358) ?_
      refine Own.iload X150 hx (pc := 359) (hb hby at_359) rfl ?_
      refine Own.iconst X150 hx (pc := 361) (2 : Int32) (hb hby at_361) (by decide) ?_
      refine Own.aload X150 hx (pc := 362) (hb hby at_362) rfl rfl ?_
      refine Own.iload X150 hx (pc := 364) (hb hby at_364) rfl ?_
      refine Own.iaload X150 hx hZ (pc := 366) e150 V_b9 (v := (.int (if p21.toInt = 4 then s5 else s6))) p21.toNatClampNeg (own_ge hp2 (by decide)) rfl (own_pick (K := 4) hp2 rfl rfl) (hb hby at_366) ?_
      refine Own.iload X150 hx (pc := 367) (hb hby at_367) rfl ?_
      refine Own.callStatic X150 hx hZ (pc := 369) (y := (⟨"com/example/hopwise/hopwise/paths/ArcChangesFirstShortenedOutOfPinLaw", "below", "(IIII)I"⟩ : MethodName)) hown (Wd hw 30 rfl) (Wd hw 31 rfl) (Wd hw 32 rfl) (Wd hw 33 rfl) (by decide) 1 [(.int (4 : Int32)), (.int (2 : Int32)), (.int (if p21.toInt = 4 then s5 else s6)), (.int nd142)] [(.int ((if ((0 : Int32) < (4 : Int32) ∧ (if p19.toInt = 0 then s1 else s2) < nd142) then (1 : Int32) else 0) + (if ((1 : Int32) < (4 : Int32) ∧ (if p20.toInt = 2 then s3 else s4) < nd142) then (1 : Int32) else 0)))] (rm5 l Z a0 hw (4 : Int32) (2 : Int32) (if p21.toInt = 4 then s5 else s6) nd142 T147.heap n0 sz147 ) (by decide) (by decide) e150 (by rw [hml]; rfl) pd6 rfl rfl (Nat.le_of_eq rfl) (hb hby at_369) (by decide) (by decide) ?_
      intro T151 L151 v151 X151 hQ151
      obtain ⟨rfl, Nq151, e151⟩ := hQ151
      have N151 := Fr.app N150 Nq151
      show Own.Go p e below _ (T151.setTop (mkF m 372 #[.val (.int a), .val (.int b), .val (.int c0), .val (.int s1), .val (.int s2), .val (.int s3), .val (.int s4), .val (.int s5), .val (.int s6), .val (.int s7), .val (.int s8), .val (.ref b9), .val (.int (4 : Int32)), .val (.int p19), .val (.int p20), .val (.int p21), .val (.int p22), .val (.ref b125), .val (.int nd142), .val (.ref b143), .val (.int ((((if (if p19.toInt = 0 then s1 else s2) < nd142 then (1 : Int32) else 0) + (if (if p20.toInt = 2 then s3 else s4) < nd142 then (1 : Int32) else 0)) + (if (if p21.toInt = 4 then s5 else s6) < nd142 then (1 : Int32) else 0)) + (if (if p22.toInt = 6 then s7 else s8) < nd142 then (1 : Int32) else 0))), .unset] [(.int (if ((2 : Int32) < (4 : Int32) ∧ (if p21.toInt = 4 then s5 else s6) < nd142) then (1 : Int32) else 0)), (.int ((if ((0 : Int32) < (4 : Int32) ∧ (if p19.toInt = 0 then s1 else s2) < nd142) then (1 : Int32) else 0) + (if ((1 : Int32) < (4 : Int32) ∧ (if p20.toInt = 2 then s3 else s4) < nd142) then (1 : Int32) else 0)))]))
      refine Own.iadd X151 hx (pc := 372) (hb hby at_372) ?_
      refine Own.iload X151 hx (pc := 373) (hb hby at_373) rfl ?_
      refine Own.iconst X151 hx (pc := 375) (3 : Int32) (hb hby at_375) (by decide) ?_
      refine Own.aload X151 hx (pc := 376) (hb hby at_376) rfl rfl ?_
      refine Own.iload X151 hx (pc := 378) (hb hby at_378) rfl ?_
      refine Own.iaload X151 hx hZ (pc := 380) e151 V_b9 (v := (.int (if p22.toInt = 6 then s7 else s8))) p22.toNatClampNeg (own_ge hp3 (by decide)) rfl (own_pick (K := 6) hp3 rfl rfl) (hb hby at_380) ?_
      refine Own.iload X151 hx (pc := 381) (hb hby at_381) rfl ?_
      refine Own.callStatic X151 hx hZ (pc := 383) (y := (⟨"com/example/hopwise/hopwise/paths/ArcChangesFirstShortenedOutOfPinLaw", "below", "(IIII)I"⟩ : MethodName)) hown (Wd hw 30 rfl) (Wd hw 31 rfl) (Wd hw 32 rfl) (Wd hw 33 rfl) (by decide) 1 [(.int (4 : Int32)), (.int (3 : Int32)), (.int (if p22.toInt = 6 then s7 else s8)), (.int nd142)] [(.int (((if ((0 : Int32) < (4 : Int32) ∧ (if p19.toInt = 0 then s1 else s2) < nd142) then (1 : Int32) else 0) + (if ((1 : Int32) < (4 : Int32) ∧ (if p20.toInt = 2 then s3 else s4) < nd142) then (1 : Int32) else 0)) + (if ((2 : Int32) < (4 : Int32) ∧ (if p21.toInt = 4 then s5 else s6) < nd142) then (1 : Int32) else 0)))] (rm5 l Z a0 hw (4 : Int32) (3 : Int32) (if p22.toInt = 6 then s7 else s8) nd142 T147.heap n0 sz147 ) (by decide) (by decide) e151 (by rw [hml]; rfl) pd6 rfl rfl (Nat.le_of_eq rfl) (hb hby at_383) (by decide) (by decide) ?_
      intro T152 L152 v152 X152 hQ152
      obtain ⟨rfl, Nq152, e152⟩ := hQ152
      have N152 := Fr.app N151 Nq152
      show Own.Go p e below _ (T152.setTop (mkF m 386 #[.val (.int a), .val (.int b), .val (.int c0), .val (.int s1), .val (.int s2), .val (.int s3), .val (.int s4), .val (.int s5), .val (.int s6), .val (.int s7), .val (.int s8), .val (.ref b9), .val (.int (4 : Int32)), .val (.int p19), .val (.int p20), .val (.int p21), .val (.int p22), .val (.ref b125), .val (.int nd142), .val (.ref b143), .val (.int ((((if (if p19.toInt = 0 then s1 else s2) < nd142 then (1 : Int32) else 0) + (if (if p20.toInt = 2 then s3 else s4) < nd142 then (1 : Int32) else 0)) + (if (if p21.toInt = 4 then s5 else s6) < nd142 then (1 : Int32) else 0)) + (if (if p22.toInt = 6 then s7 else s8) < nd142 then (1 : Int32) else 0))), .unset] [(.int (if ((3 : Int32) < (4 : Int32) ∧ (if p22.toInt = 6 then s7 else s8) < nd142) then (1 : Int32) else 0)), (.int (((if ((0 : Int32) < (4 : Int32) ∧ (if p19.toInt = 0 then s1 else s2) < nd142) then (1 : Int32) else 0) + (if ((1 : Int32) < (4 : Int32) ∧ (if p20.toInt = 2 then s3 else s4) < nd142) then (1 : Int32) else 0)) + (if ((2 : Int32) < (4 : Int32) ∧ (if p21.toInt = 4 then s5 else s6) < nd142) then (1 : Int32) else 0)))]))
      refine Own.iadd X152 hx (pc := 386) (hb hby at_386) ?_
      refine Own.istore X152 hx (pc := 387) #[.val (.int a), .val (.int b), .val (.int c0), .val (.int s1), .val (.int s2), .val (.int s3), .val (.int s4), .val (.int s5), .val (.int s6), .val (.int s7), .val (.int s8), .val (.ref b9), .val (.int (4 : Int32)), .val (.int p19), .val (.int p20), .val (.int p21), .val (.int p22), .val (.ref b125), .val (.int nd142), .val (.ref b143), .val (.int ((((if (if p19.toInt = 0 then s1 else s2) < nd142 then (1 : Int32) else 0) + (if (if p20.toInt = 2 then s3 else s4) < nd142 then (1 : Int32) else 0)) + (if (if p21.toInt = 4 then s5 else s6) < nd142 then (1 : Int32) else 0)) + (if (if p22.toInt = 6 then s7 else s8) < nd142 then (1 : Int32) else 0))), .val (.int ((((if ((0 : Int32) < (4 : Int32) ∧ (if p19.toInt = 0 then s1 else s2) < nd142) then (1 : Int32) else 0) + (if ((1 : Int32) < (4 : Int32) ∧ (if p20.toInt = 2 then s3 else s4) < nd142) then (1 : Int32) else 0)) + (if ((2 : Int32) < (4 : Int32) ∧ (if p21.toInt = 4 then s5 else s6) < nd142) then (1 : Int32) else 0)) + (if ((3 : Int32) < (4 : Int32) ∧ (if p22.toInt = 6 then s7 else s8) < nd142) then (1 : Int32) else 0)))] (hb hby at_387) rfl ?_
      refine Own.iload X152 hx (pc := 389) (hb hby at_389) rfl ?_
      refine Own.iload X152 hx (pc := 391) (hb hby at_391) rfl ?_
      refine Own.icmpNo X152 hx (pc := 393) (hb hby at_393) (XT.ii_ne_f (by simp)) ?_
      refine Own.iconst X152 hx (pc := 396) (1 : Int32) (hb hby at_396) (by decide) ?_
      refine Own.goto X152 hx (pc := 397) 401 (hb hby at_397) (by decide) (by decide) ?_
      exact Own.ireturn X152 hx hk hret (by simp) rfl (hb hby at_401) e152 ⟨rfl, N152⟩ (by decide) (by decide)
set_option maxRecDepth 65536 in
set_option maxHeartbeats 40000000 in
theorem comes_1 {Post : Tables → Env → Array Value → State → Outcome → State → Prop} (hpost : ∀ tb e args s v u, (limb_1_1.after args s (.returned v) u = true ∧ limb_1_2.after args s (.returned v) u = true ∧ True) → FrameEnd s (.returned v) u (Jvm.fieldLocs frame_1_writes args s ++ Jvm.arrayLocs frame_1_arrays args s ++ Jvm.staticLocs frame_1_statics s) 24 128 → Post tb e args s (.returned v) u) :
    ArmFor flags0 classFile x code maxLocals ret World_1 tables_1 room_1 Calls_1 rest_1 Pre_1 Post := by
  intro l hfl _ _ p e ha hc hk s m args below hf hA hF happ hP
  obtain ⟨hcalls, hrest, hpre⟩ := hP
  obtain ⟨-, -, -, hnamed, -, -, -, hat⟩ := (Spec.applies_iff hf).mp happ
  obtain ⟨hg, hn⟩ := and_e (Cond.before_iff.mp (show (Jvm.Cond.and given_1 narrow_1).before args s = true from hpre))
  obtain ⟨hcount, r0⟩ := and_e hg
  obtain ⟨g0, r1⟩ := and_e r0
  obtain ⟨g1, r2⟩ := and_e r1
  obtain ⟨w0, w1, w2, rfl⟩ : ∃ w0 w1 w2 : Value, args = #[w0, w1, w2] := by
    have hs : args.size = 3 := by simpa [Cond.value, given_1] using hcount
    obtain ⟨L⟩ := args
    match L, hs with
    | [w0, w1, w2], _ => exact ⟨w0, w1, w2, rfl⟩
  have hw := fun d (hd : d ∈ tables_1) => atoms_spec (ws := Jvm.Cond.code x code maxLocals ret :: tables_1) hat d (List.mem_cons_of_mem _ hd)
  obtain ⟨i0, e0⟩ := is_v g0
  obtain rfl : w0 = (.int i0) := Option.some.inj e0
  obtain ⟨i1, e1⟩ := is_v g1
  obtain rfl : w1 = (.int i1) := Option.some.inj e1
  obtain ⟨i2, e2⟩ := is_v r2
  obtain rfl : w2 = (.int i2) := Option.some.inj e2
  obtain ⟨n, o, h1, h2, h3, _, L, rfl, ⟨rfl, N⟩, hq⟩ := rm0 l s _ hw i0 i1 i2 s.heap s.heap.size (Nat.le_refl _) p e ha hc hk s m _ below hf ((Spec.applies_iff_loose hf).mp happ).1 ⟨rfl, State.Warmed39.refl s, rfl⟩ trivial
  refine ⟨n, _, h1, h2, h3, hpost _ _ _ _ _ _ ⟨Cond.after_iff.mpr rfl, Cond.after_iff.mpr (eq_i res_at (Term.int_eval (1)) rfl), trivial⟩ ⟨hq.1, hq.2.1, (hq.2.2.sift fun y hy => Or.inr (N y hy)).mono (by decide) (by decide)⟩⟩
theorem main_1_1 : Claimed_1_1 := comes_1 fun _ _ _ _ _ _ h hF => ⟨h.1, hF⟩
theorem main_1_2 : Claimed_1_2 := comes_1 fun _ _ _ _ _ _ h hF => ⟨h.2.1, hF⟩
end Jvm.Pilot.@@N@@
namespace Jvm.Pilot.@@N@@
open Jvm Jvm.ClassFile Sem Op Lib Jvm.Free Jvm.Stand Jvm.Pilot.@@N@@.Jvm.D
/-! MADE BY PROGRAM (witnessworld.py) out of the Statement's table words and the real class files: 10 classes; the members and pool entries that the words name. The judged class is class 1, her method 1. -/
namespace start1
open Jvm.ClassFile
def u (s : String) : CpInfo := .utf8 (stringToUtf16 s)
/-- a pool by its gaps: so many unusable entries, then the entry; so many at the end -/
def gap : Nat → List CpInfo → List CpInfo
  | 0, r => r
  | n + 1, r => .unusable :: gap n r
def poolList (es : List (Nat × CpInfo)) (last : Nat) : List CpInfo := es.foldr (fun e r => gap e.1 (e.2 :: r)) (gap last [])
def pool (es : List (Nat × CpInfo)) (last : Nat) : Array CpInfo := ⟨poolList es last⟩
def fileOf (pool : Array CpInfo) (this : Nat) (attrs : Array Attribute := #[]) (ms : Array MethodInfo := #[]) (fl : Nat := 33) (sup : Nat := 0) (ifs : Array Nat := #[]) (fds : Array FieldInfo := #[]) : ClassFile where
  minorVersion := 0
  majorVersion := 65
  constantPool := pool
  accessFlags := fl
  thisClass := this
  superClass := sup
  interfaces := ifs
  fields := fds
  methods := ms
  attributes := attrs
def plain (name : String) (sup : Option ClassId) : Class where
  name := name
  kind := .ordinary
  loader := none
  accessFlags := 33
  super := sup
  interfaces := #[]
  cf := none
  fields := #[]
  methods := #[]
  instanceTypes := #[]
  staticTypes := #[]
  resolved := #[]
  callSites := []
  init := .initialized
  statics := none
  mirror := none

def pool0 : Array CpInfo := pool [(5, u "<init>"), (0, u "()V"), (1, .class_ 10), (1, u "java/lang/Object")] 113

def k0c0 : Code := { maxStack := 0, maxLocals := 1, code := object_method_1_code, exceptionTable := #[], attributes := #[] }
def k0m0 : Method := { name := "<init>", desc := "()V", sig := { parameters := [], returnType := none }, accessFlags := 1, code := some k0c0 }
/-- java/lang/Object -/
def k0 : Class := { plain "java/lang/Object" none with
  accessFlags := 33
  interfaces := #[]
  cf := some (fileOf pool0 8 #[] #[{ accessFlags := 1, nameIndex := 5, descriptorIndex := 6, attributes := #[] }] 33 0 #[] #[])
  fields := #[]
  methods := #[k0m0]
  instanceTypes := #[]
  staticTypes := #[]
  resolved := Array.replicate 124 none
  statics := none }

def pool1 : Array CpInfo := pool [(2, .class_ 4), (1, u "java/lang/Object"), (0, u "<init>"), (0, u "()V"), (0, .class_ 8), (0, u "com/example/hopwise/hopwise/paths/ArcChanges"), (0, .methodref 7 10), (0, .nameAndType 5 11), (0, u "([I[I[I[I[I)V"), (0, .methodref 7 13), (0, .nameAndType 14 15), (0, u "firstShortenedOutOf"), (0, u "(I)I"), (0, .methodref 17 18), (0, .class_ 19), (0, .nameAndType 20 21), (0, u "com/example/hopwise/hopwise/paths/ArcChangesFirstShortenedOutOfPinLaw"), (0, u "below"), (0, u "(IIII)I"), (2, u "law"), (0, u "(III)Z")] 5

def k1m0 : Method := { name := "<init>", desc := "()V", sig := { parameters := [], returnType := none }, accessFlags := 1, code := none }
def k1c1 : Code := { maxStack := 7, maxLocals := 22, code := code, exceptionTable := #[], attributes := #[] }
def k1m1 : Method := { name := "law", desc := "(III)Z", sig := { parameters := [.int, .int, .int], returnType := some .boolean }, accessFlags := 9, code := some k1c1 }
def k1c2 : Code := { maxStack := 2, maxLocals := 4, code := method_3_code, exceptionTable := #[], attributes := #[] }
def k1m2 : Method := { name := "below", desc := "(IIII)I", sig := { parameters := [.int, .int, .int, .int], returnType := some .int }, accessFlags := 10, code := some k1c2 }
/-- com/example/hopwise/hopwise/paths/ArcChangesFirstShortenedOutOfPinLaw -/
def k1 : Class := { plain "com/example/hopwise/hopwise/paths/ArcChangesFirstShortenedOutOfPinLaw" (some 0) with
  accessFlags := 49
  interfaces := #[]
  cf := some (fileOf pool1 17 #[] #[{ accessFlags := 1, nameIndex := 5, descriptorIndex := 6, attributes := #[] }, { accessFlags := 9, nameIndex := 24, descriptorIndex := 25, attributes := #[] }, { accessFlags := 10, nameIndex := 20, descriptorIndex := 21, attributes := #[] }] 49 2 #[] #[])
  fields := #[]
  methods := #[k1m0, k1m1, k1m2]
  instanceTypes := #[]
  staticTypes := #[]
  resolved := Array.replicate 31 none
  statics := none }

def pool2 : Array CpInfo := pool [(1, .methodref 2 3), (0, .class_ 4), (0, .nameAndType 5 6), (0, u "java/lang/Object"), (0, u "<init>"), (0, u "()V"), (0, .class_ 8), (0, u "java/lang/Record")] 13

def k2c0 : Code := { maxStack := 1, maxLocals := 1, code := jdk_30_method_1_code, exceptionTable := #[], attributes := #[] }
def k2m0 : Method := { name := "<init>", desc := "()V", sig := { parameters := [], returnType := none }, accessFlags := 4, code := some k2c0 }
/-- java/lang/Record -/
def k2 : Class := { plain "java/lang/Record" (some 0) with
  accessFlags := 1057
  interfaces := #[]
  cf := some (fileOf pool2 7 #[] #[{ accessFlags := 4, nameIndex := 5, descriptorIndex := 6, attributes := #[] }] 1057 2 #[] #[])
  fields := #[]
  methods := #[k2m0]
  instanceTypes := #[]
  staticTypes := #[]
  resolved := Array.replicate 22 none
  statics := none }

def pool3 : Array CpInfo := pool [(1, .methodref 2 3), (0, .class_ 4), (0, .nameAndType 5 6), (0, u "java/lang/Record"), (0, u "<init>"), (0, u "()V"), (0, .fieldref 8 9), (0, .class_ 10), (0, .nameAndType 11 12), (0, u "com/example/hopwise/hopwise/paths/ArcChanges"), (0, u "heads"), (0, u "[I"), (0, .fieldref 8 14), (0, .nameAndType 15 12), (0, u "starts"), (0, .fieldref 8 17), (0, .nameAndType 18 12), (0, u "arcs"), (0, .fieldref 8 20), (0, .nameAndType 21 12), (0, u "shortened"), (0, .fieldref 8 23), (0, .nameAndType 24 12), (0, u "lengthsBefore"), (21, u "(I)I"), (22, u "([I[I[I[I[I)V"), (19, u "firstShortenedOutOf")] 27

def k3c0 : Code := { maxStack := 2, maxLocals := 6, code := prog_36_method_1_code, exceptionTable := #[], attributes := #[] }
def k3m0 : Method := { name := "<init>", desc := "([I[I[I[I[I)V", sig := { parameters := [(.array .int), (.array .int), (.array .int), (.array .int), (.array .int)], returnType := none }, accessFlags := 0, code := some k3c0 }
def k3c1 : Code := { maxStack := 3, maxLocals := 5, code := prog_36_method_3_code, exceptionTable := #[], attributes := #[] }
def k3m1 : Method := { name := "firstShortenedOutOf", desc := "(I)I", sig := { parameters := [.int], returnType := some .int }, accessFlags := 0, code := some k3c1 }
/-- com/example/hopwise/hopwise/paths/ArcChanges -/
def k3 : Class := { plain "com/example/hopwise/hopwise/paths/ArcChanges" (some 2) with
  accessFlags := 48
  interfaces := #[]
  cf := some (fileOf pool3 8 #[] #[{ accessFlags := 0, nameIndex := 5, descriptorIndex := 69, attributes := #[] }, { accessFlags := 0, nameIndex := 89, descriptorIndex := 46, attributes := #[] }] 48 2 #[] #[{ accessFlags := 18, nameIndex := 11, descriptorIndex := 12, attributes := #[] }, { accessFlags := 18, nameIndex := 15, descriptorIndex := 12, attributes := #[] }, { accessFlags := 18, nameIndex := 18, descriptorIndex := 12, attributes := #[] }, { accessFlags := 18, nameIndex := 21, descriptorIndex := 12, attributes := #[] }, { accessFlags := 18, nameIndex := 24, descriptorIndex := 12, attributes := #[] }])
  fields := #[{ name := "heads", type := (.array .int), accessFlags := 18, slot := 0, constantValue := 0 }, { name := "starts", type := (.array .int), accessFlags := 18, slot := 1, constantValue := 0 }, { name := "arcs", type := (.array .int), accessFlags := 18, slot := 2, constantValue := 0 }, { name := "shortened", type := (.array .int), accessFlags := 18, slot := 3, constantValue := 0 }, { name := "lengthsBefore", type := (.array .int), accessFlags := 18, slot := 4, constantValue := 0 }]
  methods := #[k3m0, k3m1]
  instanceTypes := #[(.array .int), (.array .int), (.array .int), (.array .int), (.array .int)]
  staticTypes := #[]
  resolved := Array.replicate 117 none
  statics := none }

def pool4 : Array CpInfo := pool [(1, u "java/lang/Cloneable"), (0, .class_ 1), (0, u "java/lang/Object"), (0, .class_ 3)] 3

/-- java/lang/Cloneable -/
def k4 : Class := { plain "java/lang/Cloneable" (some 0) with
  accessFlags := 1537
  interfaces := #[]
  cf := some (fileOf pool4 2 #[] #[] 1537 4 #[] #[])
  fields := #[]
  methods := #[]
  instanceTypes := #[]
  staticTypes := #[]
  resolved := Array.replicate 8 none
  statics := none }

def pool5 : Array CpInfo := pool [(1, u "java/io/Serializable"), (0, .class_ 1), (0, u "java/lang/Object"), (0, .class_ 3)] 3

/-- java/io/Serializable -/
def k5 : Class := { plain "java/io/Serializable" (some 0) with
  accessFlags := 1537
  interfaces := #[]
  cf := some (fileOf pool5 2 #[] #[] 1537 4 #[] #[])
  fields := #[]
  methods := #[]
  instanceTypes := #[]
  staticTypes := #[]
  resolved := Array.replicate 8 none
  statics := none }

/-- the primitive byte -/
def k6 : Class := { plain "byte" none with kind := .primitive 'B', accessFlags := 0x411 }
/-- [B -/
def k7 : Class := { plain "[B" (some 0) with kind := .array 6 .byte, interfaces := #[4, 5], accessFlags := 1041 }

/-- the primitive int -/
def k8 : Class := { plain "int" none with kind := .primitive 'I', accessFlags := 0x411 }
/-- [I -/
def k9 : Class := { plain "[I" (some 0) with kind := .array 8 .int, interfaces := #[4, 5], accessFlags := 1041 }

def heap : Heap := #[]
def classes : Array Class := #[k0, k1, k2, k3, k4, k5, k6, k7, k8, k9]
def interned : List (Array UInt16 × Addr) := []
def slotsUsed : Nat := 0
def theMethod : MethodId := ⟨1, 1⟩
def args0 : Array Value := #[.int 5, .int 6, .int 7]
def aboutOver (below : List Frame) : State where
  vm := { classes := classes, interned := interned.toArray }
  heap := heap
  slotsUsed := slotsUsed
  threads := #[{ frames := .invoking theMethod args0 :: below }]
def below0 : List Frame := [.native { method := ⟨0, 0⟩, args := #[] }]
def about1 : State := aboutOver below0
def p0 : Program := .bare "" "" ""
def e0 : Env := launch0.env 0 0 0
theorem w_frames : about1.frames = Frame.invoking theMethod args0 :: below0 := rfl
set_option maxRecDepth 65536 in
theorem w_args : argsFit about1.vm theMethod args0 = true := by decide +kernel
set_option maxRecDepth 65536 in
theorem w_heap : heapFits about1 = true := by decide +kernel
set_option maxRecDepth 65536 in
theorem w_runnable : about1.curStatus? = some .runnable := by decide +kernel
set_option maxRecDepth 65536 in
theorem w_alone : about1.alone = true := by decide +kernel
set_option maxRecDepth 65536 in
theorem w_named : about1.methodNamed? x = some theMethod := by decide +kernel
set_option maxRecDepth 65536 in
theorem w_hears : about1.hears theMethod below0 = true := by decide +kernel
set_option maxRecDepth 65536 in
theorem w_ripe : about1.ripe theMethod args0 below0 = true := by decide +kernel
theorem w_running : about1.status = .running := rfl
set_option maxRecDepth 65536 in
theorem w_room : about1.hasRoom e0.platform room_1 = true :=
  launch0.hasRoom_least _ room_1 (by decide +kernel) (by decide +kernel) (by decide +kernel) (by decide +kernel) (by decide +kernel) (by decide +kernel)
theorem allAtoms_all (ts : List Jvm.Cond) (a : Array Jvm.Value) (st : Jvm.State) : (allAtoms ts).before a st = ts.all (fun c => c.before a st) := by
  induction ts with
  | nil => rfl
  | cons c t ih =>
    show (Jvm.Cond.and c (allAtoms t)).before a st = _
    rw [Jvm.Cond.before_and, ih, List.all_cons]
def words1 : List Jvm.Cond := Jvm.Cond.code x code maxLocals ret :: tables_1
/-- a 'code' word, met by the world's own term for the bytes: nothing is compared byte by byte -/
theorem code_word {y : MethodName} {bytes : ByteArray} {mx : Nat} {rt : Option FieldType} {a : Array Value} {s : State} {m : MethodId} {meth : Method} {c : Code} (h1 : s.methodNamed? y = some m) (h2 : s.vm.method? m = some meth) (h3 : meth.code = some c) (h4 : c.code = bytes)
    (h5 : (c.maxLocals == mx && c.exceptionTable.isEmpty && decide (c.maxStack ≤ mostOperands) && decide (meth.sig.returnType = rt) && !meth.locks && decide (parseMethodDescriptor y.desc = some meth.sig)) = true) : (Jvm.Cond.code y bytes mx rt).before a s = true := by
  simp only [Bool.and_eq_true, beq_iff_eq, Bool.not_eq_true', decide_eq_true_eq] at h5
  obtain ⟨⟨⟨⟨⟨g1, g2⟩, g3⟩, g4⟩, g5⟩, g6⟩ := h5
  simp [Cond.before, Cond.holds, Cond.value, h1, h2, h3, h4, g1, g2, g3, g4, g5, g6]
def isCode : Jvm.Cond → Bool
  | .code _ _ _ _ => true
  | _ => false
theorem all_split {L : List Jvm.Cond} {P : Jvm.Cond → Bool} (h1 : L.all (fun c => isCode c || P c) = true) (h2 : ∀ c ∈ L.filter isCode, P c = true) : L.all P = true := by
  refine List.all_eq_true.mpr fun c hc => ?_
  have h := List.all_eq_true.mp h1 c hc
  rcases Bool.eq_false_or_eq_true (isCode c) with hi | hi
  · exact h2 c (List.mem_filter.mpr ⟨hc, hi⟩)
  · simpa [hi] using h
set_option maxRecDepth 65536 in
theorem w_c0 : (Jvm.Cond.code x code maxLocals ret).before args0 about1 = true := code_word (m := ⟨1, 1⟩) (meth := k1m1) (c := k1c1) (by decide +kernel) rfl rfl rfl (by decide +kernel)
set_option maxRecDepth 65536 in
theorem w_c1 : (Jvm.Cond.code ({ cls := "com/example/hopwise/hopwise/paths/ArcChanges", name := "<init>", desc := "([I[I[I[I[I)V" } : Jvm.MethodName) prog_36_method_1_code (6 : Nat) (Option.none : Option Jvm.ClassFile.FieldType)).before args0 about1 = true := code_word (m := ⟨3, 0⟩) (meth := k3m0) (c := k3c0) (by decide +kernel) rfl rfl rfl (by decide +kernel)
set_option maxRecDepth 65536 in
theorem w_c2 : (Jvm.Cond.code ({ cls := "java/lang/Record", name := "<init>", desc := "()V" } : Jvm.MethodName) jdk_30_method_1_code (1 : Nat) (Option.none : Option Jvm.ClassFile.FieldType)).before args0 about1 = true := code_word (m := ⟨2, 0⟩) (meth := k2m0) (c := k2c0) (by decide +kernel) rfl rfl rfl (by decide +kernel)
set_option maxRecDepth 65536 in
theorem w_c3 : (Jvm.Cond.code ({ cls := "java/lang/Object", name := "<init>", desc := "()V" } : Jvm.MethodName) object_method_1_code (1 : Nat) (Option.none : Option Jvm.ClassFile.FieldType)).before args0 about1 = true := code_word (m := ⟨0, 0⟩) (meth := k0m0) (c := k0c0) (by decide +kernel) rfl rfl rfl (by decide +kernel)
set_option maxRecDepth 65536 in
theorem w_c4 : (Jvm.Cond.code ({ cls := "com/example/hopwise/hopwise/paths/ArcChanges", name := "firstShortenedOutOf", desc := "(I)I" } : Jvm.MethodName) prog_36_method_3_code (5 : Nat) (Option.some Jvm.ClassFile.FieldType.int)).before args0 about1 = true := code_word (m := ⟨3, 1⟩) (meth := k3m1) (c := k3c1) (by decide +kernel) rfl rfl rfl (by decide +kernel)
set_option maxRecDepth 65536 in
theorem w_c5 : (Jvm.Cond.code ({ cls := "com/example/hopwise/hopwise/paths/ArcChangesFirstShortenedOutOfPinLaw", name := "below", desc := "(IIII)I" } : Jvm.MethodName) method_3_code (4 : Nat) (Option.some Jvm.ClassFile.FieldType.int)).before args0 about1 = true := code_word (m := ⟨1, 2⟩) (meth := k1m2) (c := k1c2) (by decide +kernel) rfl rfl rfl (by decide +kernel)
def codes1 : List Jvm.Cond := [Jvm.Cond.code x code maxLocals ret, Jvm.Cond.code ({ cls := "com/example/hopwise/hopwise/paths/ArcChanges", name := "<init>", desc := "([I[I[I[I[I)V" } : Jvm.MethodName) prog_36_method_1_code (6 : Nat) (Option.none : Option Jvm.ClassFile.FieldType), Jvm.Cond.code ({ cls := "java/lang/Record", name := "<init>", desc := "()V" } : Jvm.MethodName) jdk_30_method_1_code (1 : Nat) (Option.none : Option Jvm.ClassFile.FieldType), Jvm.Cond.code ({ cls := "java/lang/Object", name := "<init>", desc := "()V" } : Jvm.MethodName) object_method_1_code (1 : Nat) (Option.none : Option Jvm.ClassFile.FieldType), Jvm.Cond.code ({ cls := "com/example/hopwise/hopwise/paths/ArcChanges", name := "firstShortenedOutOf", desc := "(I)I" } : Jvm.MethodName) prog_36_method_3_code (5 : Nat) (Option.some Jvm.ClassFile.FieldType.int), Jvm.Cond.code ({ cls := "com/example/hopwise/hopwise/paths/ArcChangesFirstShortenedOutOfPinLaw", name := "below", desc := "(IIII)I" } : Jvm.MethodName) method_3_code (4 : Nat) (Option.some Jvm.ClassFile.FieldType.int)]
set_option maxRecDepth 65536 in
theorem codes_eq : words1.filter isCode = codes1 := rfl
theorem w_codes : ∀ c ∈ words1.filter isCode, c.before args0 about1 = true := by
  rw [codes_eq]
  intro c hc
  simp only [codes1, List.mem_cons, List.not_mem_nil, or_false] at hc
  rcases hc with rfl | rfl | rfl | rfl | rfl | rfl
  · exact w_c0
  · exact w_c1
  · exact w_c2
  · exact w_c3
  · exact w_c4
  · exact w_c5
set_option maxRecDepth 65536 in
theorem w_t1 : (words1.take 24).all (fun c => isCode c || c.before args0 about1) = true := by decide +kernel
set_option maxRecDepth 65536 in
theorem w_t2 : (words1.drop 24).all (fun c => isCode c || c.before args0 about1) = true := by decide +kernel
theorem w_tables : (allAtoms (Jvm.Cond.code x code maxLocals ret :: tables_1)).before args0 about1 = true := by
  rw [allAtoms_all]
  show words1.all (fun c => c.before args0 about1) = true
  refine all_split ?_ w_codes
  rw [← List.take_append_drop 24 words1, List.all_append, w_t1, w_t2]
  rfl
set_option maxRecDepth 65536 in
theorem w_case : (Jvm.Cond.and given_1 narrow_1).before args0 about1 = true := by decide +kernel
theorem w_applies : (headSpec (Jvm.Cond.code x code maxLocals ret :: tables_1) room_1).applies x e0.platform about1 = true :=
  (Spec.applies_iff w_frames).mpr ⟨w_running, w_runnable, w_alone, w_named, w_hears, w_ripe, w_room, w_tables⟩
theorem atStart : AtStart classFile x code maxLocals ret World_1 tables_1 room_1 Calls_1 rest_1 Pre_1 launch0 p0 e0 about1 theMethod args0 below0 :=
  ⟨lists_1, trivial, launch0.admits_env _ _ _, launch0.least_env, fairChoices_fair.cas, fairChoices_fair.clock, w_frames, w_args, w_heap, w_applies, trivial, trivial, w_case⟩
end start1
theorem witness_1 : WitnessClaimed_1 := ⟨start1.p0, start1.e0, start1.about1, start1.theMethod, start1.args0, start1.below0, start1.atStart⟩
end Jvm.Pilot.@@N@@
