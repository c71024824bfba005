import JvmDerived
import JvmDerived.Pilot.@@N@@Statement
import JvmDerived.Pilot.@@N@@Code
set_option linter.unusedVariables false
set_option linter.unusedSimpArgs false

namespace Jvm.Own
open Sem ClassFile Op Lib Jvm.Stand Jvm.Free Jvm.LawKit Jvm.RoadKit
/-! the walk in continuation style: Wlk says that from here the run ends as wanted -/
abbrev JJ : Type := Bool × List String × List (String × Nat × Addr)
abbrev Cx : Type := Program × Launch × Env × State × MethodId × Array Value × List Frame × Method × Code
abbrev Cx.p (G : Cx) : Program := G.1
abbrev Cx.l (G : Cx) : Launch := G.2.1
abbrev Cx.e (G : Cx) : Env := G.2.2.1
abbrev Cx.s (G : Cx) : State := G.2.2.2.1
abbrev Cx.m (G : Cx) : MethodId := G.2.2.2.2.1
abbrev Cx.args (G : Cx) : Array Value := G.2.2.2.2.2.1
abbrev Cx.below (G : Cx) : List Frame := G.2.2.2.2.2.2.1
abbrev Cx.meth (G : Cx) : Method := G.2.2.2.2.2.2.2.1
abbrev Cx.c (G : Cx) : Code := G.2.2.2.2.2.2.2.2
/-- the texts loaded since the case's start; the entries known to be resolved -/
def Books (Z : State) (vm : Vm) (J : JJ) : Prop := J.1 = true → IB Z vm J.2.1 ∧ ∀ x ∈ J.2.2, Lit (Z.setVm vm) x.1 x.2.1 x.2.2
theorem Books.warm {Z s : State} {vm0 vm1 : Vm} {J : JJ} (B : Books Z vm0 J) (h : (s.setVm vm0).WarmedH vm1) : Books Z vm1 J := by
  intro hj
  refine ⟨?_, fun x hx => ?_⟩
  · obtain ⟨more, e, r⟩ := (B hj).1
    exact ⟨more, h.interned_eq.trans e, r⟩
  · exact Lit.stays (s := s) ((B hj).2 x hx) h.wide
def EndM (w : Bool) (s : State) (o : Outcome) (t : State) (L : List Loc) (k n : Nat) : Prop := ReturnedEndW s o t L k n ∧ (w = false → s.WarmedH t.vm)
def Pos (G : Cx) (R : Room) (Z : State) (own : String) (w : Bool) (J : JJ) (T : State) (h : Heap) (L : List Loc) (k n : Nat) : Prop :=
  ∃ (vm0 : Vm) (k0 : Nat), Stand G.p G.l G.e R (G.s.setVm vm0) G.m G.args G.below G.meth G.c T L k n ∧ T.heap = h ∧ G.s.Since vm0 k0 ∧ k0 ≤ h.size ∧ Z.Warmed39 vm0 ∧ vm0.findClass own = some G.m.cls ∧ (w = false → vm0 = G.s.vm) ∧ (w = true → Books Z vm0 J) ∧ Ext Z.heap h ∧ Fr Z.heap.size L
def Go (G : Cx) (R : Room) (Z : State) (w : Bool) (Q : Option Value → Heap → JJ → Prop) (U : State) : Prop :=
  ∃ (s₂ : State) (o : Outcome), Steps G.p.tables G.e G.below U s₂ ∧ s₂.status = .running ∧ Ended s₂ G.below o ∧
    ∃ (v : Option Value) (L : List Loc) (J' : JJ), o = .returned v ∧ (Q v s₂.heap J' ∧ Fr Z.heap.size L ∧ Ext Z.heap s₂.heap ∧ (w = true → Books Z s₂.vm J')) ∧ EndM w G.s o s₂ L R.cells R.slots
def Cok (G : Cx) (y : MethodName) (code : ByteArray) (ret : Option FieldType) : Prop :=
  G.p.tables.exec = Jvm.exec ∧ G.c.code = code ∧ G.meth.sig.returnType = ret ∧ G.meth.locks = false ∧ G.meth.name = y.name
def Wlk (G : Cx) (R : Room) (Z : State) (y : MethodName) (code : ByteArray) (ret : Option FieldType) (w : Bool) (J : JJ) (Q : Option Value → Heap → JJ → Prop) (h : Heap) (k n pc : Nat) (Ls : Array Slot) (st : List Value) : Prop :=
  Cok G y code ret → Ls.size = G.c.maxLocals → ∀ (T : State) (L : List Loc), Pos G R Z y.cls w J T h L k n → Go G R Z w Q (T.setTop (mkF G.m pc Ls st))
/-- what a body does: from the arguments and the heap h it returns as Q says -/
def Met (l : Launch) (Z : State) (y : MethodName) (code : ByteArray) (ml : Nat) (ret : Option FieldType) (w : Bool) (ws : List Jvm.Cond) (rm : Room) (as' : Array Value) (h : Heap) (J : JJ) (Q : Option Value → Heap → JJ → Prop) : Prop :=
  MetFree l y (head1 (Jvm.Cond.code y code ml ret :: ws) rm) (fun a U => a = as' ∧ Z.Warmed39 U.vm ∧ U.heap = h ∧ Ext Z.heap h ∧ (w = true → Books Z U.vm J)) (fun _ _ _ _ _ => True)
    (fun _ U o U' => ∃ (v : Option Value) (L : List Loc) (J' : JJ), o = .returned v ∧ (Q v U'.heap J' ∧ Fr Z.heap.size L ∧ Ext Z.heap U'.heap ∧ (w = true → Books Z U'.vm J')) ∧ EndM w U o U' L rm.cells rm.slots)
theorem Met.of_goes {l : Launch} {Z : State} {y : MethodName} {code : ByteArray} {ml : Nat} {ret : Option FieldType} {w : Bool} {ws : List Jvm.Cond} {rm : Room} {as' : Array Value} {h : Heap} {J : JJ} {Q : Option Value → Heap → JJ → Prop}
    (hx : plainFor y = true) {Ls : Array Slot} (hef : ∀ m, entryFrame m as' ml = mkF m 0 Ls []) (hsz : Ls.size = ml) (H : ∀ G : Cx, G.l = l → Wlk G rm Z y code ret w J Q h 0 0 0 Ls []) : Met l Z y code ml ret w ws rm as' h J Q := by
  refine MetFree.of_bodySF hx hisR ?_
  intro p e s m args below meth c s₁ Bd hml hP hK
  obtain ⟨rfl, hZ, hh, hE, hB⟩ := hP
  have X0 : Stand p l e rm s m args below meth c s₁ [] 0 0 := Stand.of_body Bd
  obtain ⟨s₂, o, hs, r⟩ := H (p, l, e, s, m, args, below, meth, c) rfl ⟨Bd.exec, Bd.bytes, Bd.returns, Bd.notSynchronized, (name_of_methodNamed Bd.named Bd.method).1⟩ (hsz.trans hml.symm) s₁ [] ⟨s.vm, 0, X0, by rw [← hh, Bd.state]; rfl, (State.WarmedH.refl s).since 0, Nat.zero_le _, hZ, findClass_of_methodNamed Bd.named, fun _ => rfl, hB, hE, Fr.nil _⟩
  exact ⟨s₂, o, castTop (hef m) hs, r⟩
section Walk
variable {G : Cx} {R : Room} {Z : State} {y : MethodName} {code : ByteArray} {ret : Option FieldType} {w : Bool} {J : JJ} {Q : Option Value → Heap → JJ → Prop} {h : Heap} {k n pc pc' : Nat} {Ls Ls' : Array Slot} {st st' : List Value} {a0 : Array Value}
theorem Wlk.plain (hz : Ls'.size = Ls.size) (hstep : Cok G y code ret → ∀ (T target : State), At T G.m G.c G.below → Steps G.p.tables G.e G.below (T.setTop (mkF G.m pc' Ls' st')) target → Steps G.p.tables G.e G.below (T.setTop (mkF G.m pc Ls st)) target) (H : Wlk G R Z y code ret w J Q h k n pc' Ls' st') : Wlk G R Z y code ret w J Q h k n pc Ls st := by
  intro hG hsz T L hP
  obtain ⟨s₂, o, hs, r⟩ := H hG (hz.trans hsz) T L hP
  obtain ⟨vm0, k0, X, -⟩ := hP
  exact ⟨s₂, o, hstep hG T _ X.here hs, r⟩
/-- a step that reads the tables or the heap and changes no cell -/
theorem Wlk.reads (hz : Ls'.size = Ls.size) (hstep : ∀ (vm0 : Vm) (T : State) (L : List Loc), Cok G y code ret → Ls.size = G.c.maxLocals → Stand G.p G.l G.e R (G.s.setVm vm0) G.m G.args G.below G.meth G.c T L k n → T.heap = h → Z.Warmed39 vm0 → vm0.findClass y.cls = some G.m.cls → Ext Z.heap h →
      ∃ T' : State, Stand G.p G.l G.e R (G.s.setVm vm0) G.m G.args G.below G.meth G.c T' L k n ∧ T'.heap = h ∧ ∀ target, Steps G.p.tables G.e G.below (T'.setTop (mkF G.m pc' Ls' st')) target → Steps G.p.tables G.e G.below (T.setTop (mkF G.m pc Ls st)) target)
    (H : Wlk G R Z y code ret w J Q h k n pc' Ls' st') : Wlk G R Z y code ret w J Q h k n pc Ls st := by
  intro hG hsz T L hP
  obtain ⟨vm0, k0, X, eT, hS, hk, hZ, hown, hw, hB, hE, hF⟩ := hP
  obtain ⟨T', X', e', st'⟩ := hstep vm0 T L hG hsz X eT hZ hown hE
  obtain ⟨s₂, o, hs, r⟩ := H hG (hz.trans hsz) T' L ⟨vm0, k0, X', e', hS, hk, hZ, hown, hw, hB, hE, hF⟩
  exact ⟨s₂, o, st' _ hs, r⟩
/-- a step that writes or makes -/
theorem Wlk.moves {k' n' : Nat} (hz : Ls'.size = Ls.size) {P : Heap → Prop} (hstep : ∀ (vm0 : Vm) (T : State) (L : List Loc), Cok G y code ret → Ls.size = G.c.maxLocals → Stand G.p G.l G.e R (G.s.setVm vm0) G.m G.args G.below G.meth G.c T L k n → T.heap = h → Z.Warmed39 vm0 → vm0.findClass y.cls = some G.m.cls → Ext Z.heap h → Fr Z.heap.size L →
      ∃ (T' : State) (h' : Heap) (L' : List Loc), Stand G.p G.l G.e R (G.s.setVm vm0) G.m G.args G.below G.meth G.c T' L' k' n' ∧ T'.heap = h' ∧ h.size ≤ h'.size ∧ Ext Z.heap h' ∧ Fr Z.heap.size L' ∧ P h' ∧ ∀ target, Steps G.p.tables G.e G.below (T'.setTop (mkF G.m pc' Ls' st')) target → Steps G.p.tables G.e G.below (T.setTop (mkF G.m pc Ls st)) target)
    (H : ∀ h', P h' → Wlk G R Z y code ret w J Q h' k' n' pc' Ls' st') : Wlk G R Z y code ret w J Q h k n pc Ls st := by
  intro hG hsz T L hP
  obtain ⟨vm0, k0, X, eT, hS, hk, hZ, hown, hw, hB, hE, hF⟩ := hP
  obtain ⟨T', h', L', X', e', hle, hE', hF', hP', st'⟩ := hstep vm0 T L hG hsz X eT hZ hown hE hF
  obtain ⟨s₂, o, hs, r⟩ := H h' hP' hG (hz.trans hsz) T' L' ⟨vm0, k0, X', e', hS, Nat.le_trans hk hle, hZ, hown, hw, hB, hE', hF'⟩
  exact ⟨s₂, o, st' _ hs, r⟩
theorem Wlk.more {k' n' : Nat} (hk' : k ≤ k') (hn' : n ≤ n') (H : Wlk G R Z y code ret w J Q h k' n' pc Ls st) : Wlk G R Z y code ret w J Q h k n pc Ls st := by
  intro hG hsz T L hP
  obtain ⟨vm0, k0, X, r⟩ := hP
  exact H hG hsz T L ⟨vm0, k0, X.more hk' hn', r⟩
/-- the conditions of a branch, taken and not -/
def cT (cd : ClassFile.Cond) (x z : Int32) : Prop := match cd with
  | .eq => x = z
  | .ne => ¬ x = z
  | .lt => x < z
  | .ge => ¬ x < z
  | .gt => z < x
  | .le => ¬ z < x
def cF (cd : ClassFile.Cond) (x z : Int32) : Prop := match cd with
  | .eq => ¬ x = z
  | .ne => x = z
  | .lt => ¬ x < z
  | .ge => x < z
  | .gt => ¬ z < x
  | .le => z < x
theorem cT_holds {cd : ClassFile.Cond} {x z : Int32} (c : cT cd x z) : if_icmp.holds cd x z = true := by
  cases cd
  · exact (teq c).1
  · exact (feq c).2
  · exact (tlt c).1
  · exact (flt c).2.1
  · exact (tlt c).2.2.1
  · exact (flt c).2.2.2
theorem cF_holds {cd : ClassFile.Cond} {x z : Int32} (c : cF cd x z) : if_icmp.holds cd x z = false := by
  cases cd
  · exact (feq c).1
  · exact (teq c).2
  · exact (flt c).1
  · exact (tlt c).2.1
  · exact (flt c).2.2.1
  · exact (tlt c).2.2.2
theorem cTF (cd : ClassFile.Cond) (x z : Int32) : cT cd x z ∨ cF cd x z := by
  cases cd
  · exact Classical.em (x = z)
  · exact (Classical.em (x = z)).symm
  · exact Classical.em (x < z)
  · exact (Classical.em (x < z)).symm
  · exact Classical.em (z < x)
  · exact (Classical.em (z < x)).symm

theorem Wlk.aloadN {j : Fin 4} {v : Value} (hd : decode code pc = .ok (.aload_n j, 1)) (hl : Ls[j.val]? = some (.val v)) (hv : v.isRef = true) (hp : pc + 1 = pc') (H : Wlk G R Z y code ret w J Q h k n pc' Ls (v :: st)) : Wlk G R Z y code ret w J Q h k n pc Ls st := by
  subst hp
  exact Wlk.plain rfl (fun hG T t hA q => XS.aloadN hA hG.1 rfl (hb hG.2.1 hd) hl hv q) H
theorem Wlk.aload {j : Nat} {v : Value} (hd : decode code pc = .ok (.aload j, 2)) (hl : Ls[j]? = some (.val v)) (hv : v.isRef = true) (hp : pc + 2 = pc') (H : Wlk G R Z y code ret w J Q h k n pc' Ls (v :: st)) : Wlk G R Z y code ret w J Q h k n pc Ls st := by
  subst hp
  exact Wlk.plain rfl (fun hG T t hA q => XS.aload hA hG.1 rfl (hb hG.2.1 hd) hl hv q) H
theorem Wlk.iloadN {j : Fin 4} {v : Int32} (hd : decode code pc = .ok (.iload_n j, 1)) (hl : Ls[j.val]? = some (.val (.int v))) (hp : pc + 1 = pc') (H : Wlk G R Z y code ret w J Q h k n pc' Ls (.int v :: st)) : Wlk G R Z y code ret w J Q h k n pc Ls st := by
  subst hp
  exact Wlk.plain rfl (fun hG T t hA q => XS.iloadN hA hG.1 rfl (hb hG.2.1 hd) hl q) H
theorem Wlk.iload {j : Nat} {v : Int32} (hd : decode code pc = .ok (.iload j, 2)) (hl : Ls[j]? = some (.val (.int v))) (hp : pc + 2 = pc') (H : Wlk G R Z y code ret w J Q h k n pc' Ls (.int v :: st)) : Wlk G R Z y code ret w J Q h k n pc Ls st := by
  subst hp
  exact Wlk.plain rfl (fun hG T t hA q => XS.iload hA hG.1 rfl (hb hG.2.1 hd) hl q) H
theorem Wlk.lloadN {j : Fin 4} {v : Int64} (hd : decode code pc = .ok (.lload_n j, 1)) (hl : Ls[j.val]? = some (.val (.long v))) (hp : pc + 1 = pc') (H : Wlk G R Z y code ret w J Q h k n pc' Ls (.long v :: st)) : Wlk G R Z y code ret w J Q h k n pc Ls st := by
  subst hp
  exact Wlk.plain rfl (fun hG T t hA q => XT.lloadN hA hG.1 rfl (hb hG.2.1 hd) hl q) H
theorem Wlk.lload {j : Nat} {v : Int64} (hd : decode code pc = .ok (.lload j, 2)) (hl : Ls[j]? = some (.val (.long v))) (hp : pc + 2 = pc') (H : Wlk G R Z y code ret w J Q h k n pc' Ls (.long v :: st)) : Wlk G R Z y code ret w J Q h k n pc Ls st := by
  subst hp
  exact Wlk.plain rfl (fun hG T t hA q => XT.lload hA hG.1 rfl (hb hG.2.1 hd) hl q) H
theorem Wlk.iconst {i : Int} {v : Int32} (hd : decode code pc = .ok (.iconst i, 1)) (hv : Int32.ofInt i = v) (hp : pc + 1 = pc') (H : Wlk G R Z y code ret w J Q h k n pc' Ls (.int v :: st)) : Wlk G R Z y code ret w J Q h k n pc Ls st := by
  subst hp
  exact Wlk.plain rfl (fun hG T t hA q => XS.iconst hA hG.1 rfl (hb hG.2.1 hd) (by rw [hv]; exact q)) H
theorem Wlk.bipush {i : Int} {v : Int32} (hd : decode code pc = .ok (.bipush i, 2)) (hv : (Int8.ofInt i).toInt32 = v) (hp : pc + 2 = pc') (H : Wlk G R Z y code ret w J Q h k n pc' Ls (.int v :: st)) : Wlk G R Z y code ret w J Q h k n pc Ls st := by
  subst hp
  exact Wlk.plain rfl (fun hG T t hA q => XS.bipush hA hG.1 rfl (hb hG.2.1 hd) (by rw [hv]; exact q)) H
theorem Wlk.sipush {i : Int} {v : Int32} (hd : decode code pc = .ok (.sipush i, 3)) (hv : (Int16.ofInt i).toInt32 = v) (hp : pc + 3 = pc') (H : Wlk G R Z y code ret w J Q h k n pc' Ls (.int v :: st)) : Wlk G R Z y code ret w J Q h k n pc Ls st := by
  subst hp
  exact Wlk.plain rfl (fun hG T t hA q => XS.sipush hA hG.1 rfl (hb hG.2.1 hd) (by rw [hv]; exact q)) H
theorem Wlk.lconst {j : Fin 2} {v : Int64} (hd : decode code pc = .ok (.lconst j, 1)) (hv : Int64.ofNat j = v) (hp : pc + 1 = pc') (H : Wlk G R Z y code ret w J Q h k n pc' Ls (.long v :: st)) : Wlk G R Z y code ret w J Q h k n pc Ls st := by
  subst hp
  exact Wlk.plain rfl (fun hG T t hA q => XT.lconst hA hG.1 rfl (hb hG.2.1 hd) (by rw [hv]; exact q)) H
theorem Wlk.aconstNull  (hd : decode code pc = .ok (.aconst_null, 1)) (hp : pc + 1 = pc') (H : Wlk G R Z y code ret w J Q h k n pc' Ls (.null :: st)) : Wlk G R Z y code ret w J Q h k n pc Ls st := by
  subst hp
  exact Wlk.plain rfl (fun hG T t hA q => XS.aconstNull hA hG.1 rfl (hb hG.2.1 hd) q) H
theorem Wlk.iadd {x z : Int32} (hd : decode code pc = .ok (.iadd, 1)) (hp : pc + 1 = pc') (H : Wlk G R Z y code ret w J Q h k n pc' Ls (.int (x + z) :: st)) : Wlk G R Z y code ret w J Q h k n pc Ls (.int z :: .int x :: st) := by
  subst hp
  exact Wlk.plain rfl (fun hG T t hA q => XS.iadd hA hG.1 rfl (hb hG.2.1 hd) rfl q) H
theorem Wlk.isub {x z : Int32} (hd : decode code pc = .ok (.isub, 1)) (hp : pc + 1 = pc') (H : Wlk G R Z y code ret w J Q h k n pc' Ls (.int (x - z) :: st)) : Wlk G R Z y code ret w J Q h k n pc Ls (.int z :: .int x :: st) := by
  subst hp
  exact Wlk.plain rfl (fun hG T t hA q => XS.isub hA hG.1 rfl (hb hG.2.1 hd) rfl q) H
theorem Wlk.imul {x z : Int32} (hd : decode code pc = .ok (.imul, 1)) (hp : pc + 1 = pc') (H : Wlk G R Z y code ret w J Q h k n pc' Ls (.int (x * z) :: st)) : Wlk G R Z y code ret w J Q h k n pc Ls (.int z :: .int x :: st) := by
  subst hp
  exact Wlk.plain rfl (fun hG T t hA q => XS.imul hA hG.1 rfl (hb hG.2.1 hd) rfl q) H
theorem Wlk.iand {x z : Int32} (hd : decode code pc = .ok (.iand, 1)) (hp : pc + 1 = pc') (H : Wlk G R Z y code ret w J Q h k n pc' Ls (.int (x &&& z) :: st)) : Wlk G R Z y code ret w J Q h k n pc Ls (.int z :: .int x :: st) := by
  subst hp
  exact Wlk.plain rfl (fun hG T t hA q => XS.iand hA hG.1 rfl (hb hG.2.1 hd) rfl q) H
theorem Wlk.ior {x z : Int32} (hd : decode code pc = .ok (.ior, 1)) (hp : pc + 1 = pc') (H : Wlk G R Z y code ret w J Q h k n pc' Ls (.int (x ||| z) :: st)) : Wlk G R Z y code ret w J Q h k n pc Ls (.int z :: .int x :: st) := by
  subst hp
  exact Wlk.plain rfl (fun hG T t hA q => XT.ior hA hG.1 rfl (hb hG.2.1 hd) rfl q) H
theorem Wlk.ixor {x z : Int32} (hd : decode code pc = .ok (.ixor, 1)) (hp : pc + 1 = pc') (H : Wlk G R Z y code ret w J Q h k n pc' Ls (.int (x ^^^ z) :: st)) : Wlk G R Z y code ret w J Q h k n pc Ls (.int z :: .int x :: st) := by
  subst hp
  exact Wlk.plain rfl (fun hG T t hA q => XT.ixor hA hG.1 rfl (hb hG.2.1 hd) rfl q) H
theorem Wlk.irem {x z : Int32} (hd : decode code pc = .ok (.irem, 1)) (hne : z ≠ 0) (hp : pc + 1 = pc') (H : Wlk G R Z y code ret w J Q h k n pc' Ls (.int (x % z) :: st)) : Wlk G R Z y code ret w J Q h k n pc Ls (.int z :: .int x :: st) := by
  subst hp
  exact Wlk.reads rfl (fun vm0 T L hG hsz X eT hZ hown hE => ⟨T, X, eT, fun t q => iremM (g := mkF G.m pc Ls (.int z :: .int x :: st)) X hG.1 rfl (hb hG.2.1 hd) rfl hne q⟩) H
theorem Wlk.idiv {x z : Int32} (hd : decode code pc = .ok (.idiv, 1)) (hne : z ≠ 0) (hp : pc + 1 = pc') (H : Wlk G R Z y code ret w J Q h k n pc' Ls (.int (x / z) :: st)) : Wlk G R Z y code ret w J Q h k n pc Ls (.int z :: .int x :: st) := by
  subst hp
  exact Wlk.plain rfl (fun hG T t hA q => XS.idiv hA hG.1 rfl (hb hG.2.1 hd) rfl hne q) H
theorem Wlk.ishl {x z : Int32} (hd : decode code pc = .ok (.ishl, 1)) (hp : pc + 1 = pc') (H : Wlk G R Z y code ret w J Q h k n pc' Ls (.int (x <<< (z &&& 31)) :: st)) : Wlk G R Z y code ret w J Q h k n pc Ls (.int z :: .int x :: st) := by
  subst hp
  exact Wlk.plain rfl (fun hG T t hA q => XT.ishl hA hG.1 rfl (hb hG.2.1 hd) rfl q) H
theorem Wlk.ishr {x z : Int32} (hd : decode code pc = .ok (.ishr, 1)) (hp : pc + 1 = pc') (H : Wlk G R Z y code ret w J Q h k n pc' Ls (.int (x >>> (z &&& 31)) :: st)) : Wlk G R Z y code ret w J Q h k n pc Ls (.int z :: .int x :: st) := by
  subst hp
  exact Wlk.plain rfl (fun hG T t hA q => XT.ishr hA hG.1 rfl (hb hG.2.1 hd) rfl q) H
theorem Wlk.iushr {x z : Int32} (hd : decode code pc = .ok (.iushr, 1)) (hp : pc + 1 = pc') (H : Wlk G R Z y code ret w J Q h k n pc' Ls (.int ((x.toUInt32 >>> (z &&& 31).toUInt32).toInt32) :: st)) : Wlk G R Z y code ret w J Q h k n pc Ls (.int z :: .int x :: st) := by
  subst hp
  exact Wlk.plain rfl (fun hG T t hA q => XT.iushr hA hG.1 rfl (hb hG.2.1 hd) rfl q) H
theorem Wlk.ladd {x z : Int64} (hd : decode code pc = .ok (.ladd, 1)) (hp : pc + 1 = pc') (H : Wlk G R Z y code ret w J Q h k n pc' Ls (.long (x + z) :: st)) : Wlk G R Z y code ret w J Q h k n pc Ls (.long z :: .long x :: st) := by
  subst hp
  exact Wlk.plain rfl (fun hG T t hA q => XT.ladd hA hG.1 rfl (hb hG.2.1 hd) rfl q) H
theorem Wlk.lsub {x z : Int64} (hd : decode code pc = .ok (.lsub, 1)) (hp : pc + 1 = pc') (H : Wlk G R Z y code ret w J Q h k n pc' Ls (.long (x - z) :: st)) : Wlk G R Z y code ret w J Q h k n pc Ls (.long z :: .long x :: st) := by
  subst hp
  exact Wlk.plain rfl (fun hG T t hA q => XT.lsub hA hG.1 rfl (hb hG.2.1 hd) rfl q) H
theorem Wlk.lmul {x z : Int64} (hd : decode code pc = .ok (.lmul, 1)) (hp : pc + 1 = pc') (H : Wlk G R Z y code ret w J Q h k n pc' Ls (.long (x * z) :: st)) : Wlk G R Z y code ret w J Q h k n pc Ls (.long z :: .long x :: st) := by
  subst hp
  exact Wlk.plain rfl (fun hG T t hA q => XT.lmul hA hG.1 rfl (hb hG.2.1 hd) rfl q) H
theorem Wlk.land {x z : Int64} (hd : decode code pc = .ok (.land, 1)) (hp : pc + 1 = pc') (H : Wlk G R Z y code ret w J Q h k n pc' Ls (.long (x &&& z) :: st)) : Wlk G R Z y code ret w J Q h k n pc Ls (.long z :: .long x :: st) := by
  subst hp
  exact Wlk.plain rfl (fun hG T t hA q => XT.land hA hG.1 rfl (hb hG.2.1 hd) rfl q) H
theorem Wlk.lor {x z : Int64} (hd : decode code pc = .ok (.lor, 1)) (hp : pc + 1 = pc') (H : Wlk G R Z y code ret w J Q h k n pc' Ls (.long (x ||| z) :: st)) : Wlk G R Z y code ret w J Q h k n pc Ls (.long z :: .long x :: st) := by
  subst hp
  exact Wlk.plain rfl (fun hG T t hA q => XT.lor hA hG.1 rfl (hb hG.2.1 hd) rfl q) H
theorem Wlk.lxor {x z : Int64} (hd : decode code pc = .ok (.lxor, 1)) (hp : pc + 1 = pc') (H : Wlk G R Z y code ret w J Q h k n pc' Ls (.long (x ^^^ z) :: st)) : Wlk G R Z y code ret w J Q h k n pc Ls (.long z :: .long x :: st) := by
  subst hp
  exact Wlk.plain rfl (fun hG T t hA q => XT.lxor hA hG.1 rfl (hb hG.2.1 hd) rfl q) H
theorem Wlk.ineg {x : Int32} (hd : decode code pc = .ok (.ineg, 1)) (hp : pc + 1 = pc') (H : Wlk G R Z y code ret w J Q h k n pc' Ls (.int (-x) :: st)) : Wlk G R Z y code ret w J Q h k n pc Ls (.int x :: st) := by
  subst hp
  exact Wlk.plain rfl (fun hG T t hA q => XS.ineg hA hG.1 rfl (hb hG.2.1 hd) rfl q) H
theorem Wlk.lushr {x : Int64} {z : Int32} (hd : decode code pc = .ok (.lushr, 1)) (hp : pc + 1 = pc') (H : Wlk G R Z y code ret w J Q h k n pc' Ls (.long (XT.ushrL x z) :: st)) : Wlk G R Z y code ret w J Q h k n pc Ls (.int z :: .long x :: st) := by
  subst hp
  exact Wlk.plain rfl (fun hG T t hA q => XT.lushr hA hG.1 rfl (hb hG.2.1 hd) rfl q) H
theorem Wlk.i2l {x : Int32} (hd : decode code pc = .ok (.i2l, 1)) (hp : pc + 1 = pc') (H : Wlk G R Z y code ret w J Q h k n pc' Ls (.long x.toInt64 :: st)) : Wlk G R Z y code ret w J Q h k n pc Ls (.int x :: st) := by
  subst hp
  exact Wlk.plain rfl (fun hG T t hA q => XT.i2l hA hG.1 rfl (hb hG.2.1 hd) rfl q) H
theorem Wlk.l2i {x : Int64} (hd : decode code pc = .ok (.l2i, 1)) (hp : pc + 1 = pc') (H : Wlk G R Z y code ret w J Q h k n pc' Ls (.int x.toInt32 :: st)) : Wlk G R Z y code ret w J Q h k n pc Ls (.long x :: st) := by
  subst hp
  exact Wlk.plain rfl (fun hG T t hA q => XT.l2i hA hG.1 rfl (hb hG.2.1 hd) rfl q) H
theorem Wlk.i2c {x : Int32} (hd : decode code pc = .ok (.i2c, 1)) (hp : pc + 1 = pc') (H : Wlk G R Z y code ret w J Q h k n pc' Ls (.int x.toUInt32.toUInt16.toUInt32.toInt32 :: st)) : Wlk G R Z y code ret w J Q h k n pc Ls (.int x :: st) := by
  subst hp
  exact Wlk.plain rfl (fun hG T t hA q => XT.i2c hA hG.1 rfl (hb hG.2.1 hd) rfl q) H
theorem Wlk.i2b {x : Int32} (hd : decode code pc = .ok (.i2b, 1)) (hp : pc + 1 = pc') (H : Wlk G R Z y code ret w J Q h k n pc' Ls (.int x.toInt8.toInt32 :: st)) : Wlk G R Z y code ret w J Q h k n pc Ls (.int x :: st) := by
  subst hp
  exact Wlk.plain rfl (fun hG T t hA q => XT.i2b hA hG.1 rfl (hb hG.2.1 hd) rfl q) H
theorem Wlk.i2s {x : Int32} (hd : decode code pc = .ok (.i2s, 1)) (hp : pc + 1 = pc') (H : Wlk G R Z y code ret w J Q h k n pc' Ls (.int x.toInt16.toInt32 :: st)) : Wlk G R Z y code ret w J Q h k n pc Ls (.int x :: st) := by
  subst hp
  exact Wlk.plain rfl (fun hG T t hA q => XT.i2s hA hG.1 rfl (hb hG.2.1 hd) rfl q) H
theorem Wlk.lcmp {x z : Int64} (hd : decode code pc = .ok (.lcmp, 1)) (hp : pc + 1 = pc') (H : Wlk G R Z y code ret w J Q h k n pc' Ls (.int (lcmpW x z) :: st)) : Wlk G R Z y code ret w J Q h k n pc Ls (.long z :: .long x :: st) := by
  subst hp
  exact Wlk.plain rfl (fun hG T t hA q => XT.lcmp hA hG.1 rfl (hb hG.2.1 hd) rfl q) H
theorem Wlk.dup {x : Value} (hd : decode code pc = .ok (.dup, 1)) (hc : x.category = 1) (hp : pc + 1 = pc') (H : Wlk G R Z y code ret w J Q h k n pc' Ls (x :: x :: st)) : Wlk G R Z y code ret w J Q h k n pc Ls (x :: st) := by
  subst hp
  exact Wlk.plain rfl (fun hG T t hA q => XS.dup hA hG.1 rfl (hb hG.2.1 hd) rfl hc q) H
theorem Wlk.pop {x : Value} (hd : decode code pc = .ok (.pop, 1)) (hc : x.category = 1) (hp : pc + 1 = pc') (H : Wlk G R Z y code ret w J Q h k n pc' Ls st) : Wlk G R Z y code ret w J Q h k n pc Ls (x :: st) := by
  subst hp
  exact Wlk.plain rfl (fun hG T t hA q => XT.pop hA hG.1 rfl (hb hG.2.1 hd) rfl hc q) H
theorem Wlk.dupX1 {x z : Value} (hd : decode code pc = .ok (.dup_x1, 1)) (hc : x.category = 1) (hc' : z.category = 1) (hp : pc + 1 = pc') (H : Wlk G R Z y code ret w J Q h k n pc' Ls (x :: z :: x :: st)) : Wlk G R Z y code ret w J Q h k n pc Ls (x :: z :: st) := by
  subst hp
  exact Wlk.plain rfl (fun hG T t hA q => XT.dupX1 hA hG.1 rfl (hb hG.2.1 hd) rfl hc hc' q) H
theorem Wlk.dup2 {x z : Value} (hd : decode code pc = .ok (.dup2, 1)) (hc : x.category = 1) (hc' : z.category = 1) (hp : pc + 1 = pc') (H : Wlk G R Z y code ret w J Q h k n pc' Ls (x :: z :: x :: z :: st)) : Wlk G R Z y code ret w J Q h k n pc Ls (x :: z :: st) := by
  subst hp
  exact Wlk.plain rfl (fun hG T t hA q => XT.dup2 hA hG.1 rfl (hb hG.2.1 hd) rfl hc hc' q) H
theorem Wlk.istoreN {j : Fin 4} {x : Int32} (hd : decode code pc = .ok (.istore_n j, 1)) (hl : storeLocals Ls j.val (.int x) = some Ls') (hz : Ls'.size = Ls.size) (hp : pc + 1 = pc') (H : Wlk G R Z y code ret w J Q h k n pc' Ls' st) : Wlk G R Z y code ret w J Q h k n pc Ls (.int x :: st) := by
  subst hp
  exact Wlk.plain hz (fun hG T t hA q => XS.istoreN hA hG.1 rfl (hb hG.2.1 hd) rfl hl q) H
theorem Wlk.istore {j : Nat} {x : Int32} (hd : decode code pc = .ok (.istore j, 2)) (hl : storeLocals Ls j (.int x) = some Ls') (hz : Ls'.size = Ls.size) (hp : pc + 2 = pc') (H : Wlk G R Z y code ret w J Q h k n pc' Ls' st) : Wlk G R Z y code ret w J Q h k n pc Ls (.int x :: st) := by
  subst hp
  exact Wlk.plain hz (fun hG T t hA q => XS.istore hA hG.1 rfl (hb hG.2.1 hd) rfl hl q) H
theorem Wlk.astoreN {j : Fin 4} {x : Value} (hd : decode code pc = .ok (.astore_n j, 1)) (hv : x.isRef = true) (hl : storeLocals Ls j.val x = some Ls') (hz : Ls'.size = Ls.size) (hp : pc + 1 = pc') (H : Wlk G R Z y code ret w J Q h k n pc' Ls' st) : Wlk G R Z y code ret w J Q h k n pc Ls (x :: st) := by
  subst hp
  exact Wlk.plain hz (fun hG T t hA q => XS.astoreN hA hG.1 rfl (hb hG.2.1 hd) rfl hv hl q) H
theorem Wlk.astore {j : Nat} {x : Value} (hd : decode code pc = .ok (.astore j, 2)) (hv : x.isRef = true) (hl : storeLocals Ls j x = some Ls') (hz : Ls'.size = Ls.size) (hp : pc + 2 = pc') (H : Wlk G R Z y code ret w J Q h k n pc' Ls' st) : Wlk G R Z y code ret w J Q h k n pc Ls (x :: st) := by
  subst hp
  exact Wlk.plain hz (fun hG T t hA q => XS.astore hA hG.1 rfl (hb hG.2.1 hd) rfl hv hl q) H
theorem Wlk.lstoreN {j : Fin 4} {x : Int64} (hd : decode code pc = .ok (.lstore_n j, 1)) (hl : storeLocals Ls j.val (.long x) = some Ls') (hz : Ls'.size = Ls.size) (hp : pc + 1 = pc') (H : Wlk G R Z y code ret w J Q h k n pc' Ls' st) : Wlk G R Z y code ret w J Q h k n pc Ls (.long x :: st) := by
  subst hp
  exact Wlk.plain hz (fun hG T t hA q => XT.lstoreN hA hG.1 rfl (hb hG.2.1 hd) rfl hl q) H
theorem Wlk.lstore {j : Nat} {x : Int64} (hd : decode code pc = .ok (.lstore j, 2)) (hl : storeLocals Ls j (.long x) = some Ls') (hz : Ls'.size = Ls.size) (hp : pc + 2 = pc') (H : Wlk G R Z y code ret w J Q h k n pc' Ls' st) : Wlk G R Z y code ret w J Q h k n pc Ls (.long x :: st) := by
  subst hp
  exact Wlk.plain hz (fun hG T t hA q => XT.lstore hA hG.1 rfl (hb hG.2.1 hd) rfl hl q) H
theorem Wlk.iinc {j : Nat} {cst : Int} {x v : Int32} (hd : decode code pc = .ok (.iinc j cst, 3)) (hv : Int32.ofInt cst = v) (hl : Ls[j]? = some (.val (.int x))) (hs : storeLocals Ls j (.int (x + v)) = some Ls') (hz : Ls'.size = Ls.size) (hp : pc + 3 = pc') (H : Wlk G R Z y code ret w J Q h k n pc' Ls' st) : Wlk G R Z y code ret w J Q h k n pc Ls st := by
  subst hp
  exact Wlk.plain hz (fun hG T t hA q => XT.iincV hA hG.1 rfl v (hb hG.2.1 hd) hv hl hs q) H
theorem Wlk.goto {o : Int} (hd : decode code pc = .ok (.goto o, 3)) (ho : 0 ≤ (pc : Int) + o) (hp : ((pc : Int) + o).toNat = pc') (H : Wlk G R Z y code ret w J Q h k n pc' Ls st) : Wlk G R Z y code ret w J Q h k n pc Ls st :=
  Wlk.plain rfl (fun hG T t hA q => XS.goto hA hG.1 rfl (pc0 := pc) rfl (hb hG.2.1 hd) ho hp q) H
theorem Wlk.ifT {cd : ClassFile.Cond} {o : Int} {x : Int32} (hd : decode code pc = .ok (.ifCond cd o, 3)) (ho : 0 ≤ (pc : Int) + o) (hp : ((pc : Int) + o).toNat = pc') (c : cT cd x 0) (H : Wlk G R Z y code ret w J Q h k n pc' Ls st) : Wlk G R Z y code ret w J Q h k n pc Ls (.int x :: st) :=
  Wlk.plain rfl (fun hG T t hA q => XS.ifYes hA hG.1 rfl (pc0 := pc) rfl (hb hG.2.1 hd) rfl ((if0 _ _).trans (cT_holds c)) ho hp q) H
theorem Wlk.ifF {cd : ClassFile.Cond} {o : Int} {x : Int32} (hd : decode code pc = .ok (.ifCond cd o, 3)) (c : cF cd x 0) (hp : pc + 3 = pc') (H : Wlk G R Z y code ret w J Q h k n pc' Ls st) : Wlk G R Z y code ret w J Q h k n pc Ls (.int x :: st) := by
  subst hp
  exact Wlk.plain rfl (fun hG T t hA q => XS.ifNo hA hG.1 rfl (hb hG.2.1 hd) rfl ((if0 _ _).trans (cF_holds c)) q) H
theorem Wlk.icT {cd : ClassFile.Cond} {o : Int} {x z : Int32} (hd : decode code pc = .ok (.if_icmp cd o, 3)) (ho : 0 ≤ (pc : Int) + o) (hp : ((pc : Int) + o).toNat = pc') (c : cT cd x z) (H : Wlk G R Z y code ret w J Q h k n pc' Ls st) : Wlk G R Z y code ret w J Q h k n pc Ls (.int z :: .int x :: st) :=
  Wlk.plain rfl (fun hG T t hA q => XS.icmpYes hA hG.1 rfl (pc0 := pc) rfl (hb hG.2.1 hd) rfl (cT_holds c) ho hp q) H
theorem Wlk.icF {cd : ClassFile.Cond} {o : Int} {x z : Int32} (hd : decode code pc = .ok (.if_icmp cd o, 3)) (c : cF cd x z) (hp : pc + 3 = pc') (H : Wlk G R Z y code ret w J Q h k n pc' Ls st) : Wlk G R Z y code ret w J Q h k n pc Ls (.int z :: .int x :: st) := by
  subst hp
  exact Wlk.plain rfl (fun hG T t hA q => XS.icmpNo hA hG.1 rfl (hb hG.2.1 hd) rfl (cF_holds c) q) H
theorem Wlk.if_ {cd : ClassFile.Cond} {o : Int} {x : Int32} {pcT pcF : Nat} (hd : decode code pc = .ok (.ifCond cd o, 3)) (ho : 0 ≤ (pc : Int) + o) (hT : ((pc : Int) + o).toNat = pcT) (hF : pc + 3 = pcF) (H1 : cT cd x 0 → Wlk G R Z y code ret w J Q h k n pcT Ls st) (H2 : cF cd x 0 → Wlk G R Z y code ret w J Q h k n pcF Ls st) : Wlk G R Z y code ret w J Q h k n pc Ls (.int x :: st) :=
  (cTF cd x 0).elim (fun c => Wlk.ifT hd ho hT c (H1 c)) (fun c => Wlk.ifF hd c hF (H2 c))
theorem Wlk.ic_ {cd : ClassFile.Cond} {o : Int} {x z : Int32} {pcT pcF : Nat} (hd : decode code pc = .ok (.if_icmp cd o, 3)) (ho : 0 ≤ (pc : Int) + o) (hT : ((pc : Int) + o).toNat = pcT) (hF : pc + 3 = pcF) (H1 : cT cd x z → Wlk G R Z y code ret w J Q h k n pcT Ls st) (H2 : cF cd x z → Wlk G R Z y code ret w J Q h k n pcF Ls st) : Wlk G R Z y code ret w J Q h k n pc Ls (.int z :: .int x :: st) :=
  (cTF cd x z).elim (fun c => Wlk.icT hd ho hT c (H1 c)) (fun c => Wlk.icF hd c hF (H2 c))
theorem Wlk.ifnullT {o : Int} (hd : decode code pc = .ok (.ifnull o, 3)) (ho : 0 ≤ (pc : Int) + o) (hp : ((pc : Int) + o).toNat = pc') (H : Wlk G R Z y code ret w J Q h k n pc' Ls st) : Wlk G R Z y code ret w J Q h k n pc Ls (.null :: st) :=
  Wlk.plain rfl (fun hG T t hA q => XS.ifnullYes hA hG.1 rfl (pc0 := pc) rfl (hb hG.2.1 hd) rfl ho hp q) H
theorem Wlk.ifnullF {o : Int} {b : Addr} (hd : decode code pc = .ok (.ifnull o, 3)) (hp : pc + 3 = pc') (H : Wlk G R Z y code ret w J Q h k n pc' Ls st) : Wlk G R Z y code ret w J Q h k n pc Ls (.ref b :: st) := by
  subst hp
  exact Wlk.plain rfl (fun hG T t hA q => XS.ifnullNo hA hG.1 rfl (hb hG.2.1 hd) rfl q) H
theorem Wlk.ifnonnullT {o : Int} {b : Addr} (hd : decode code pc = .ok (.ifnonnull o, 3)) (ho : 0 ≤ (pc : Int) + o) (hp : ((pc : Int) + o).toNat = pc') (H : Wlk G R Z y code ret w J Q h k n pc' Ls st) : Wlk G R Z y code ret w J Q h k n pc Ls (.ref b :: st) :=
  Wlk.plain rfl (fun hG T t hA q => XT.ifnonnullYes hA hG.1 rfl (pc0 := pc) rfl (hb hG.2.1 hd) rfl ho hp q) H
theorem Wlk.ifnonnullF {o : Int} (hd : decode code pc = .ok (.ifnonnull o, 3)) (hp : pc + 3 = pc') (H : Wlk G R Z y code ret w J Q h k n pc' Ls st) : Wlk G R Z y code ret w J Q h k n pc Ls (.null :: st) := by
  subst hp
  exact Wlk.plain rfl (fun hG T t hA q => XT.ifnonnullNo hA hG.1 rfl (hb hG.2.1 hd) rfl q) H
theorem Wlk.acmp {cd : ACond} {o : Int} {x z : Value} {same : Bool} (hd : decode code pc = .ok (.if_acmp cd o, 3)) (h1 : x.isRef = true) (h2 : z.isRef = true) (hq : decide (x = z) = same) (ho : 0 ≤ (pc : Int) + o) (hp : pc' = if acV cd same = true then ((pc : Int) + o).toNat else pc + 3) (H : Wlk G R Z y code ret w J Q h k n pc' Ls st) : Wlk G R Z y code ret w J Q h k n pc Ls (z :: x :: st) :=
  Wlk.reads rfl (fun vm0 T L hG hsz X eT hZ hown hE => ⟨T, X, eT, fun t q => Jvm.RoadKit.acmp (g := mkF G.m pc Ls (z :: x :: st)) X hG.1 rfl h1 h2 (pc0 := pc) rfl (hb hG.2.1 hd) rfl hq ho hp q⟩) H
theorem Wlk.ldcI {index : Nat} {v : Int32} (hd : decode code pc = .ok (.ldc index, 2)) (wd : (Cond.constant y.cls index v).before a0 Z = true) (hp : pc + 2 = pc') (H : Wlk G R Z y code ret w J Q h k n pc' Ls (.int v :: st)) : Wlk G R Z y code ret w J Q h k n pc Ls st := by
  subst hp
  exact Wlk.reads rfl (fun vm0 T L hG hsz X eT hZ hown hE => ⟨T, X, eT, fun t q => X.ldcI hG.1 hown (mvT hZ wd) (g := mkF G.m pc Ls st) rfl (hb hG.2.1 hd) q⟩) H
theorem Wlk.ldcWI {index : Nat} {v : Int32} (hd : decode code pc = .ok (.ldc_w index, 3)) (wd : (Cond.constant y.cls index v).before a0 Z = true) (hp : pc + 3 = pc') (H : Wlk G R Z y code ret w J Q h k n pc' Ls (.int v :: st)) : Wlk G R Z y code ret w J Q h k n pc Ls st := by
  subst hp
  exact Wlk.reads rfl (fun vm0 T L hG hsz X eT hZ hown hE => ⟨T, X, eT, fun t q => X.ldcWI hG.1 hown (mvT hZ wd) (g := mkF G.m pc Ls st) rfl (hb hG.2.1 hd) q⟩) H
theorem Wlk.ldc2J {index : Nat} {v : Int64} (hd : decode code pc = .ok (.ldc2_w index, 3)) (wd : (Cond.constantLong y.cls index v).before a0 Z = true) (hp : pc + 3 = pc') (H : Wlk G R Z y code ret w J Q h k n pc' Ls (.long v :: st)) : Wlk G R Z y code ret w J Q h k n pc Ls st := by
  subst hp
  exact Wlk.reads rfl (fun vm0 T L hG hsz X eT hZ hown hE => ⟨T, X, eT, fun t q => X.ldc2J hG.1 hown (mvT hZ wd) (g := mkF G.m pc Ls st) rfl (hb hG.2.1 hd) q⟩) H
theorem Wlk.getF {index : Nat} {R0 O nm d : String} {a : Addr} {v : Value} (hd : decode code pc = .ok (.getfield index, 3)) (wl : (Cond.fieldLink y.cls index R0 nm d).before a0 Z = true) (via : Via Z R0 O nm d) (F : Fld Z h a O nm d v) (hp : pc + 3 = pc') (H : Wlk G R Z y code ret w J Q h k n pc' Ls (v :: st)) : Wlk G R Z y code ret w J Q h k n pc Ls (.ref a :: st) := by
  subst hp
  exact Wlk.reads rfl (fun vm0 T L hG hsz X eT hZ hown hE => Jvm.RoadKit.getF X hG.1 hZ hown (host := "") (Or.inl wl) via eT F (g := mkF G.m pc Ls (.ref a :: st)) rfl rfl (hb hG.2.1 hd)) H
theorem Wlk.getS {index : Nat} {R0 O nm d : String} {v : Value} (hd : decode code pc = .ok (.getstatic index, 3)) (wl : (Cond.fieldLink y.cls index R0 nm d).before a0 Z = true) (via : Via Z R0 O nm d) (F : Sta Z Z.heap O nm d v) (hp : pc + 3 = pc') (H : Wlk G R Z y code ret w J Q h k n pc' Ls (v :: st)) : Wlk G R Z y code ret w J Q h k n pc Ls st := by
  subst hp
  exact Wlk.reads rfl (fun vm0 T L hG hsz X eT hZ hown hE => Jvm.RoadKit.getS (host := "") X hG.1 hZ hown wl via eT (F.ext hE) (g := mkF G.m pc Ls st) rfl (hb hG.2.1 hd)) H
theorem Wlk.castY {index : Nat} {K : String} {a : Addr} (hd : decode code pc = .ok (.checkcast index, 3)) (wl : (Cond.classLink y.cls index K).before a0 Z = true) (F : Ins Z h a K true) (hp : pc + 3 = pc') (H : Wlk G R Z y code ret w J Q h k n pc' Ls (.ref a :: st)) : Wlk G R Z y code ret w J Q h k n pc Ls (.ref a :: st) := by
  subst hp
  exact Wlk.reads rfl (fun vm0 T L hG hsz X eT hZ hown hE => Jvm.RoadKit.castY X hG.1 hZ hown wl eT F (g := mkF G.m pc Ls (.ref a :: st)) rfl rfl (hb hG.2.1 hd)) H
theorem Wlk.castNull {index : Nat} (hd : decode code pc = .ok (.checkcast index, 3)) (hp : pc + 3 = pc') (H : Wlk G R Z y code ret w J Q h k n pc' Ls (.null :: st)) : Wlk G R Z y code ret w J Q h k n pc Ls (.null :: st) := by
  subst hp
  exact Wlk.reads rfl (fun vm0 T L hG hsz X eT hZ hown hE => ⟨T, X, eT, fun t q => X.checkcastNull hG.1 (g := mkF G.m pc Ls (.null :: st)) rfl rfl (hb hG.2.1 hd) t q⟩) H
theorem Wlk.instY {index : Nat} {K : String} {a : Addr} (hd : decode code pc = .ok (.instanceof index, 3)) (wl : (Cond.classLink y.cls index K).before a0 Z = true) (F : Ins Z h a K true) (hp : pc + 3 = pc') (H : Wlk G R Z y code ret w J Q h k n pc' Ls (.int 1 :: st)) : Wlk G R Z y code ret w J Q h k n pc Ls (.ref a :: st) := by
  subst hp
  exact Wlk.reads rfl (fun vm0 T L hG hsz X eT hZ hown hE => Jvm.RoadKit.instY X hG.1 hZ hown wl eT F (g := mkF G.m pc Ls (.ref a :: st)) rfl rfl (hb hG.2.1 hd)) H
theorem Wlk.instNull {index : Nat} (hd : decode code pc = .ok (.instanceof index, 3)) (hp : pc + 3 = pc') (H : Wlk G R Z y code ret w J Q h k n pc' Ls (.int 0 :: st)) : Wlk G R Z y code ret w J Q h k n pc Ls (.null :: st) := by
  subst hp
  exact Wlk.reads rfl (fun vm0 T L hG hsz X eT hZ hown hE => ⟨T, X, eT, fun t q => X.instanceofNull hG.1 (g := mkF G.m pc Ls (.null :: st)) rfl rfl (hb hG.2.1 hd) t q⟩) H
theorem Wlk.initO {index : Nat} {a : Addr} {W : Nat} (hd : decode code pc = .ok (.invokespecial index, 3)) (w1 : (Cond.methodLink y.cls index Lib.objectInit).before a0 Z = true) (w2 : (Cond.instanceMethod Lib.objectInit).before a0 Z = true) (w3 : (Cond.code Lib.objectInit ⟨#[0xb1]⟩ 1 none).before a0 Z = true)
    (hf : 1 ≤ R.frames) (hW : (st.map fun v => v.category).sum = W) (hl : W + 12 ≤ R.locals) (hp : pc + 3 = pc') (H : Wlk G R Z y code ret w J Q h k n pc' Ls st) : Wlk G R Z y code ret w J Q h k n pc Ls (.ref a :: st) := by
  subst hp
  exact Wlk.reads rfl (fun vm0 T L hG hsz X eT hZ hown hE => Jvm.RoadKit.initO X hG.1 hZ hown w1 w2 w3 eT (g := mkF G.m pc Ls (.ref a :: st)) rfl hsz rfl (hb hG.2.1 hd) hf (W := W) (by show 2 * 0 + _ ≤ _; omega) hl) H
theorem Wlk.newO {index sl : Nat} {C : String} (hd : decode code pc = .ok (.new index, 3)) (wl : (Cond.classLink y.cls index C).before a0 Z = true) (wi : (Cond.instantiable C sl).before a0 Z = true) (wz : (Cond.initialized C).before a0 Z = true) (hc : k + 1 ≤ R.cells) (hl : n + sl ≤ R.slots) (hp : pc + 3 = pc')
    (H : ∀ (a : Addr) (h' : Heap), h.size ≤ a → Z.heap.size ≤ a → Ext h h' → Exa Z h' a C → (∀ {O nm d : String} {ty : FieldType}, Laid Z a0 C O nm d → parseFieldDescriptor d = some ty → Fld Z h' a O nm d (defaultValue ty)) → Wlk G R Z y code ret w J Q h' (k + 1) (n + sl) pc' Ls (.ref a :: st)) : Wlk G R Z y code ret w J Q h k n pc Ls st := by
  subst hp
  refine Wlk.moves (P := fun h' => Z.heap.size ≤ h.size ∧ Ext h h' ∧ Exa Z h' h.size C ∧ (∀ {O nm d : String} {ty : FieldType}, Laid Z a0 C O nm d → parseFieldDescriptor d = some ty → Fld Z h' h.size O nm d (defaultValue ty))) (st' := .ref h.size :: st) rfl (fun vm0 T L hG hsz X eT hZ hown hE hF => ?_) (fun h' q => H h.size h' (Nat.le_refl _) q.1 q.2.1 q.2.2.1 q.2.2.2)
  obtain ⟨T', h', X', e', E', A', D', -, s'⟩ := Jvm.RoadKit.newO X hG.1 hZ hown wl wi wz eT (g := mkF G.m pc Ls st) rfl (hb hG.2.1 hd) hc hl
  exact ⟨T', h', L, X', e', E'.1, ⟨Nat.le_trans hE.1 E'.1, fun a c q => E'.2 a c (hE.2 a c q)⟩, hF, ⟨hE.1, E', A', D'⟩, s'⟩
theorem Wlk.newP {aty : ArrayType} {z : Int32} {cap : Nat} {ty : FieldType} (hd : decode code pc = .ok (.newarray aty, 2)) (hty : newarray.typeOf aty = ty) (wl : (Cond.arrayClass ty).before a0 Z = true) (hn : ¬ z < 0) (hcap : z.toNatClampNeg ≤ cap) (hbig : cap * 8 ≤ 536870912) (hc : k + 1 ≤ R.cells) (hl : n + cap ≤ R.slots) (hp : pc + 2 = pc')
    (H : ∀ (a : Addr) (h' : Heap) (kc : ClassId), h.size ≤ a → Z.heap.size ≤ a → Ext h h' → Arv Z h' a kc ty z [] (defaultValue ty) → Wlk G R Z y code ret w J Q h' (k + 1) (n + cap) pc' Ls (.ref a :: st)) : Wlk G R Z y code ret w J Q h k n pc Ls (.int z :: st) := by
  subst hp hty
  refine Wlk.moves (P := fun h' => Z.heap.size ≤ h.size ∧ Ext h h' ∧ ∃ kc, Arv Z h' h.size kc (newarray.typeOf aty) z [] (defaultValue (newarray.typeOf aty))) (st' := .ref h.size :: st) rfl (fun vm0 T L hG hsz X eT hZ hown hE hF => ?_) (fun h' q => q.2.2.elim fun kc A => H h.size h' kc (Nat.le_refl _) q.1 q.2.1 A)
  obtain ⟨T', h', cA, X', e', E', A', s'⟩ := Jvm.RoadKit.newP X hG.1 hZ wl eT (g := mkF G.m pc Ls (.int z :: st)) rfl (hb hG.2.1 hd) rfl hn hcap hbig hc hl
  exact ⟨T', h', L, X', e', E'.1, ⟨Nat.le_trans hE.1 E'.1, fun a c q => E'.2 a c (hE.2 a c q)⟩, hF, ⟨hE.1, E', cA, Arv.new A' hn⟩, s'⟩
theorem Wlk.newR {index : Nat} {C : String} {z : Int32} {cap : Nat} (hd : decode code pc = .ok (.anewarray index, 3)) (wl : (Cond.classLink y.cls index C).before a0 Z = true) (w2 : (Cond.arrayOver (.object C)).before a0 Z = true) (hn : ¬ z < 0) (hcap : z.toNatClampNeg ≤ cap) (hbig : cap * 8 ≤ 536870912) (hc : k + 1 ≤ R.cells) (hl : n + cap ≤ R.slots) (hp : pc + 3 = pc')
    (H : ∀ (a : Addr) (h' : Heap) (kc : ClassId), h.size ≤ a → Z.heap.size ≤ a → Ext h h' → Ovr Z kc C → Arv Z h' a kc (.object C) z [] .null → Wlk G R Z y code ret w J Q h' (k + 1) (n + cap) pc' Ls (.ref a :: st)) : Wlk G R Z y code ret w J Q h k n pc Ls (.int z :: st) := by
  subst hp
  refine Wlk.moves (P := fun h' => Z.heap.size ≤ h.size ∧ Ext h h' ∧ ∃ kc, Ovr Z kc C ∧ Arv Z h' h.size kc (.object C) z [] .null) (st' := .ref h.size :: st) rfl (fun vm0 T L hG hsz X eT hZ hown hE hF => ?_) (fun h' q => q.2.2.elim fun kc A => H h.size h' kc (Nat.le_refl _) q.1 q.2.1 A.1 A.2)
  obtain ⟨T', h', cA, X', e', E', A', O', s'⟩ := Jvm.RoadKit.newR X hG.1 hZ hown wl w2 eT (g := mkF G.m pc Ls (.int z :: st)) rfl (hb hG.2.1 hd) rfl hn hcap hbig hc hl
  exact ⟨T', h', L, X', e', E'.1, ⟨Nat.le_trans hE.1 E'.1, fun a c q => E'.2 a c (hE.2 a c q)⟩, hF, ⟨hE.1, E', cA, O', Arv.new A' hn⟩, s'⟩
theorem ext_wr {a : Addr} {sl : Nat} {v : Value} {h' : Heap} (hE : Ext Z.heap h) (g : Z.heap.size ≤ a) (W : Wr h h' a sl v) : Ext Z.heap h' := (Old.wr (n0 := Z.heap.size) ⟨rfl, hE⟩ W g).2
theorem Wlk.putF {index sl : Nat} {R0 O nm d C : String} {a : Addr} {v old : Value} {ty : FieldType} (hd : decode code pc = .ok (.putfield index, 3)) (wl : (Cond.fieldLink y.cls index R0 nm d).before a0 Z = true) (via : Via Z R0 O nm d) (F : Fld Z h a O nm d old) (E : Exa Z h a C) (LY : (Cond.lays C O nm d).before a0 Z = true ∨ ((Cond.laysFinal C O nm d).before a0 Z = true ∧ y.cls = O ∧ y.name = "<init>")) (wi : (Cond.instantiable C sl).before a0 Z = true)
    (hty : parseFieldDescriptor d = some ty) (hn : narrow ty v = v) (hf : fits ty v = true) (g : Z.heap.size ≤ a) (hp : pc + 3 = pc') (H : ∀ h', Wr h h' a (Jvm.RoadKit.slotOf Z O nm d) v → Wlk G R Z y code ret w J Q h' k n pc' Ls st) : Wlk G R Z y code ret w J Q h k n pc Ls (v :: .ref a :: st) := by
  subst hp
  refine Wlk.moves (P := fun h' => Wr h h' a (Jvm.RoadKit.slotOf Z O nm d) v) rfl (fun vm0 T L hG hsz X eT hZ hown hE hF => ?_) H
  obtain ⟨T', h', X', e', W', s'⟩ := Jvm.RoadKit.putF X hG.1 hZ hown (host := "") (Or.inl wl) via eT F E (LY.imp id fun q => ⟨q.1, q.2.1, hG.2.2.2.2.trans q.2.2⟩) wi hty hn hf (g := mkF G.m pc Ls (v :: .ref a :: st)) rfl rfl (hb hG.2.1 hd)
  exact ⟨T', h', _, X', e', Nat.le_of_eq W'.size.symm, ext_wr hE g W', Fr.snoc X' hF g, W', s'⟩
theorem Wlk.castore {a : Addr} {kc : ClassId} {z j x : Int32} {vs : List Value} {d : Value} {i : Nat} (hd : decode code pc = .ok (.castore, 1)) (A : Arv Z h a kc .char z vs d) (hj : ¬ j < 0 ∧ j < z) (hi : j.toNatClampNeg = i) (hv : i < vs.length) (g : Z.heap.size ≤ a) (hp : pc + 1 = pc')
    (H : ∀ h', Wr h h' a i (.int (nar .char x)) → Arv Z h' a kc .char z (vs.set i (.int (nar .char x))) d → Wlk G R Z y code ret w J Q h' k n pc' Ls st) : Wlk G R Z y code ret w J Q h k n pc Ls (.int x :: .int j :: .ref a :: st) := by
  subst hp hi
  obtain ⟨cl, Ar, q1, S, N, HH, GG⟩ := A
  refine Wlk.moves (P := fun h' => Wr h h' a j.toNatClampNeg (.int (nar .char x))) rfl (fun vm0 T L hG hsz X eT hZ hown hE hF => ?_) (fun h' W => H h' W (Arv.set Ar q1 S N HH GG (fits_nar_char x) W j.toNatClampNeg rfl hv))
  obtain ⟨T', h', X', e', W', s'⟩ := Jvm.RoadKit.stC X hG.1 hZ eT Ar (j := j) (inb_of S hj) (g := mkF G.m pc Ls (.int x :: .int j :: .ref a :: st)) rfl rfl (hb hG.2.1 hd)
  exact ⟨T', h', _, X', e', Nat.le_of_eq W'.size.symm, ext_wr hE g W', Fr.snoc X' hF g, W', s'⟩
theorem Wlk.bastore {a : Addr} {kc : ClassId} {z j x : Int32} {vs : List Value} {d : Value} {i : Nat} (hd : decode code pc = .ok (.bastore, 1)) (A : Arv Z h a kc .byte z vs d) (hj : ¬ j < 0 ∧ j < z) (hi : j.toNatClampNeg = i) (hv : i < vs.length) (g : Z.heap.size ≤ a) (hp : pc + 1 = pc')
    (H : ∀ h', Wr h h' a i (.int (nar .byte x)) → Arv Z h' a kc .byte z (vs.set i (.int (nar .byte x))) d → Wlk G R Z y code ret w J Q h' k n pc' Ls st) : Wlk G R Z y code ret w J Q h k n pc Ls (.int x :: .int j :: .ref a :: st) := by
  subst hp hi
  obtain ⟨cl, Ar, q1, S, N, HH, GG⟩ := A
  refine Wlk.moves (P := fun h' => Wr h h' a j.toNatClampNeg (.int (nar .byte x))) rfl (fun vm0 T L hG hsz X eT hZ hown hE hF => ?_) (fun h' W => H h' W (Arv.set Ar q1 S N HH GG (fits_nar_byte x) W j.toNatClampNeg rfl hv))
  obtain ⟨T', h', X', e', W', s'⟩ := Jvm.RoadKit.stB X hG.1 hZ eT Ar (j := j) (inb_of S hj) (g := mkF G.m pc Ls (.int x :: .int j :: .ref a :: st)) rfl rfl (hb hG.2.1 hd)
  exact ⟨T', h', _, X', e', Nat.le_of_eq W'.size.symm, ext_wr hE g W', Fr.snoc X' hF g, W', s'⟩
theorem Wlk.iastore {a : Addr} {kc : ClassId} {z j x : Int32} {vs : List Value} {d : Value} {i : Nat} (hd : decode code pc = .ok (.iastore, 1)) (A : Arv Z h a kc .int z vs d) (hj : ¬ j < 0 ∧ j < z) (hi : j.toNatClampNeg = i) (hv : i < vs.length) (g : Z.heap.size ≤ a) (hp : pc + 1 = pc')
    (H : ∀ h', Wr h h' a i (.int x) → Arv Z h' a kc .int z (vs.set i (.int x)) d → Wlk G R Z y code ret w J Q h' k n pc' Ls st) : Wlk G R Z y code ret w J Q h k n pc Ls (.int x :: .int j :: .ref a :: st) := by
  subst hp hi
  obtain ⟨cl, Ar, q1, S, N, HH, GG⟩ := A
  refine Wlk.moves (P := fun h' => Wr h h' a j.toNatClampNeg (.int x)) rfl (fun vm0 T L hG hsz X eT hZ hown hE hF => ?_) (fun h' W => H h' W (Arv.set Ar q1 S N HH GG (rfl) W j.toNatClampNeg rfl hv))
  obtain ⟨T', h', X', e', W', s'⟩ := Jvm.RoadKit.stI X hG.1 hZ eT Ar (j := j) (inb_of S hj) (g := mkF G.m pc Ls (.int x :: .int j :: .ref a :: st)) rfl rfl (hb hG.2.1 hd)
  exact ⟨T', h', _, X', e', Nat.le_of_eq W'.size.symm, ext_wr hE g W', Fr.snoc X' hF g, W', s'⟩
theorem Wlk.aastore {a : Addr} {kc : ClassId} {z j : Int32} {v : Value} {vs : List Value} {d : Value} {i : Nat} {ty : FieldType} (hd : decode code pc = .ok (.aastore, 1)) (A : Arv Z h a kc ty z vs d) (hty : ty.isReference = true) (hfv : fits ty v = true) (F : Sto Z h a v) (hj : ¬ j < 0 ∧ j < z) (hi : j.toNatClampNeg = i) (hv : i < vs.length) (g : Z.heap.size ≤ a) (hp : pc + 1 = pc')
    (H : ∀ h', Wr h h' a i v → Arv Z h' a kc ty z (vs.set i v) d → Wlk G R Z y code ret w J Q h' k n pc' Ls st) : Wlk G R Z y code ret w J Q h k n pc Ls (v :: .int j :: .ref a :: st) := by
  subst hp hi
  obtain ⟨cl, Ar, q1, S, N, HH, GG⟩ := A
  refine Wlk.moves (P := fun h' => Wr h h' a j.toNatClampNeg v) rfl (fun vm0 T L hG hsz X eT hZ hown hE hF => ?_) (fun h' W => H h' W (Arv.set Ar q1 S N HH GG hfv W j.toNatClampNeg rfl hv))
  obtain ⟨T', h', X', e', W', s'⟩ := Jvm.RoadKit.stR X hG.1 hZ eT Ar (j := j) (inb_of S hj) hty F (g := mkF G.m pc Ls (v :: .int j :: .ref a :: st)) rfl rfl (hb hG.2.1 hd)
  exact ⟨T', h', _, X', e', Nat.le_of_eq W'.size.symm, ext_wr hE g W', Fr.snoc X' hF g, W', s'⟩
theorem Wlk.caload {a : Addr} {kc : ClassId} {z j : Int32} {vs : List Value} {d v : Value} (hd : decode code pc = .ok (.caload, 1)) (A : Arv Z h a kc .char z vs d) (hj : ¬ j < 0 ∧ j < z) (hv : vs.getD j.toNatClampNeg d = v) (hp : pc + 1 = pc') (H : Wlk G R Z y code ret w J Q h k n pc' Ls (v :: st)) : Wlk G R Z y code ret w J Q h k n pc Ls (.int j :: .ref a :: st) := by
  subst hp
  obtain ⟨cl, Ar, q1, S, N, HH, GG⟩ := A
  have hin := inb_of S hj
  exact Wlk.reads rfl (fun vm0 T L hG hsz X eT hZ hown hE => ⟨T, X, eT, fun t q => X.caload hG.1 (j := j) (v := v) (by rw [eT]; exact Ar.1) (State.isArrayOf_alike hZ.alike Ar.2.1) Ar.2.2 hin (Has.at HH hin hv) (g := mkF G.m pc Ls (.int j :: .ref a :: st)) rfl rfl (hb hG.2.1 hd) t q⟩) H
theorem Wlk.baload {a : Addr} {kc : ClassId} {z j : Int32} {vs : List Value} {d v : Value} (hd : decode code pc = .ok (.baload, 1)) (A : Arv Z h a kc .byte z vs d) (hj : ¬ j < 0 ∧ j < z) (hv : vs.getD j.toNatClampNeg d = v) (hp : pc + 1 = pc') (H : Wlk G R Z y code ret w J Q h k n pc' Ls (v :: st)) : Wlk G R Z y code ret w J Q h k n pc Ls (.int j :: .ref a :: st) := by
  subst hp
  obtain ⟨cl, Ar, q1, S, N, HH, GG⟩ := A
  have hin := inb_of S hj
  exact Wlk.reads rfl (fun vm0 T L hG hsz X eT hZ hown hE => ⟨T, X, eT, fun t q => X.baloadBytes hG.1 (j := j) (v := v) (by rw [eT]; exact Ar.1) (State.isArrayOf_alike hZ.alike Ar.2.1) Ar.2.2 hin (Has.at HH hin hv) (g := mkF G.m pc Ls (.int j :: .ref a :: st)) rfl rfl (hb hG.2.1 hd) t q⟩) H
theorem Wlk.iaload {a : Addr} {kc : ClassId} {z j : Int32} {vs : List Value} {d v : Value} (hd : decode code pc = .ok (.iaload, 1)) (A : Arv Z h a kc .int z vs d) (hj : ¬ j < 0 ∧ j < z) (hv : vs.getD j.toNatClampNeg d = v) (hp : pc + 1 = pc') (H : Wlk G R Z y code ret w J Q h k n pc' Ls (v :: st)) : Wlk G R Z y code ret w J Q h k n pc Ls (.int j :: .ref a :: st) := by
  subst hp
  obtain ⟨cl, Ar, q1, S, N, HH, GG⟩ := A
  have hin := inb_of S hj
  exact Wlk.reads rfl (fun vm0 T L hG hsz X eT hZ hown hE => ⟨T, X, eT, fun t q => X.iaload hG.1 (j := j) (v := v) (by rw [eT]; exact Ar.1) (State.isArrayOf_alike hZ.alike Ar.2.1) Ar.2.2 hin (Has.at HH hin hv) (g := mkF G.m pc Ls (.int j :: .ref a :: st)) rfl rfl (hb hG.2.1 hd) t q⟩) H
theorem Wlk.aaload {a : Addr} {kc : ClassId} {z j : Int32} {vs : List Value} {d v : Value} {ty : FieldType} (hd : decode code pc = .ok (.aaload, 1)) (A : Arv Z h a kc ty z vs d) (hty : ty.isReference = true) (hj : ¬ j < 0 ∧ j < z) (hv : vs.getD j.toNatClampNeg d = v) (hp : pc + 1 = pc') (H : Wlk G R Z y code ret w J Q h k n pc' Ls (v :: st)) : Wlk G R Z y code ret w J Q h k n pc Ls (.int j :: .ref a :: st) := by
  subst hp
  obtain ⟨cl, Ar, q1, S, N, HH, GG⟩ := A
  have hin := inb_of S hj
  exact Wlk.reads rfl (fun vm0 T L hG hsz X eT hZ hown hE => ⟨T, X, eT, fun t q => X.aaload hG.1 (j := j) (v := v) (by rw [eT]; exact Ar.1) (State.isArrayOf_alike hZ.alike Ar.2.1) hty Ar.2.2 hin (Has.at HH hin hv) (g := mkF G.m pc Ls (.int j :: .ref a :: st)) rfl rfl (hb hG.2.1 hd) t q⟩) H
theorem Wlk.arraylength {a : Addr} {kc : ClassId} {z : Int32} {vs : List Value} {d : Value} {ty : FieldType} (hd : decode code pc = .ok (.arraylength, 1)) (A : Arv Z h a kc ty z vs d) (hp : pc + 1 = pc') (H : Wlk G R Z y code ret w J Q h k n pc' Ls (.int z :: st)) : Wlk G R Z y code ret w J Q h k n pc Ls (.ref a :: st) := by
  subst hp
  obtain ⟨cl, Ar, q1, S, N, HH, GG⟩ := A
  exact Wlk.reads rfl (fun vm0 T L hG hsz X eT hZ hown hE => ⟨T, X, eT, fun t q => X.arraylength hG.1 (by rw [eT]; exact Ar.1) (State.isArrayOf_alike hZ.alike Ar.2.1) (g := mkF G.m pc Ls (.ref a :: st)) rfl rfl (hb hG.2.1 hd) t (by rw [len_of S N]; exact q)⟩) H
/-! ## the ends -/
theorem Wlk.leaves {v : Option Value} (hv : ret = none → v = none) (hstep : ∀ (vm0 : Vm) (T : State) (L : List Loc) (fs : List Frame), Cok G y code ret → Stand G.p G.l G.e R (G.s.setVm vm0) G.m G.args G.below G.meth G.c T L k n → (∀ (f : JFrame) (acts : List Action), f.method = G.m → f.locked = none → f.entered = [] → (doReturn G.e (T.setTop f) acts v).1 = T.setFrames fs) → Steps G.p.tables G.e G.below (T.setTop (mkF G.m pc Ls st)) (T.setFrames fs))
    (hc : k ≤ R.cells) (hs : n ≤ R.slots) (hq : Q v h J) : Wlk G R Z y code ret w J Q h k n pc Ls st := by
  intro hG hsz T L hP
  obtain ⟨vm0, k0, X, eT, hS, hk, hZ, hown, hw, hB, hE, hF⟩ := hP
  obtain ⟨fs, hr, hrun, hended, hend⟩ := (X.more hc hs).leaveW hS (by rw [eT]; exact hk) (v := v) (fun q => hv (hG.2.2.1.symm.trans q)) hG.2.2.2.1
  have eh : (T.setFrames fs).heap = h := eT
  refine ⟨_, _, hstep vm0 T L fs hG X hr, hrun, hended, v, L, J, rfl, ⟨by rw [eh]; exact hq, hF, by rw [eh]; exact hE, fun q => Books.warm (s := G.s) (hB q) X.warmed⟩, hend, fun q => ?_⟩
  have q' := hw q
  subst q'
  exact X.warmed
theorem Wlk.ireturnN {z : Int32} {t : FieldType} (hd : decode code pc = .ok (.ireturn, 1)) (hret : ret = some t) (ht : t = .boolean ∨ t = .byte ∨ t = .char ∨ t = .short) (hc : k ≤ R.cells) (hs : n ≤ R.slots) (hq : Q (some (.int (nar t z))) h J) : Wlk G R Z y code ret w J Q h k n pc Ls (.int z :: st) :=
  Wlk.leaves (fun q => by rw [hret] at q; cases q) (fun vm0 T L fs hG X hr => retN X hG.1 (hG.2.2.1.trans hret) ht (hb hG.2.1 hd) hr) hc hs hq
theorem Wlk.ireturnI {z : Int32} (hd : decode code pc = .ok (.ireturn, 1)) (hret : ret = some .int) (hc : k ≤ R.cells) (hs : n ≤ R.slots) (hq : Q (some (.int z)) h J) : Wlk G R Z y code ret w J Q h k n pc Ls (.int z :: st) :=
  Wlk.leaves (fun q => by rw [hret] at q; cases q) (fun vm0 T L fs hG X hr => retOut X hG.1 (hG.2.2.1.trans hret) rfl (Or.inl ⟨rfl, Or.inl rfl, z, rfl⟩) (hb hG.2.1 hd) hr) hc hs hq
theorem Wlk.areturn {v : Value} {t : FieldType} (hd : decode code pc = .ok (.areturn, 1)) (hret : ret = some t) (ht : t.isReference = true) (hv : v.isRef = true) (hn : narrow t v = v) (hc : k ≤ R.cells) (hs : n ≤ R.slots) (hq : Q (some v) h J) : Wlk G R Z y code ret w J Q h k n pc Ls (v :: st) :=
  Wlk.leaves (fun q => by rw [hret] at q; cases q) (fun vm0 T L fs hG X hr => retOut X hG.1 (hG.2.2.1.trans hret) hn (Or.inr (Or.inr (Or.inr (Or.inr ⟨rfl, ht, hv⟩)))) (hb hG.2.1 hd) hr) hc hs hq
theorem Wlk.return_ (hd : decode code pc = .ok (.return_, 1)) (hret : ret = none) (hc : k ≤ R.cells) (hs : n ≤ R.slots) (hq : Q none h J) : Wlk G R Z y code ret w J Q h k n pc Ls [] :=
  Wlk.leaves (fun _ => rfl) (fun vm0 T L fs hG X hr => X.returnOut hG.1 (hG.2.2.1.trans hret) (hb hG.2.1 hd) hr) hc hs hq
/-! ## calls -/
theorem Met.narrow {l : Launch} {y : MethodName} {zc : ByteArray} {zm : Nat} {zr : Option FieldType} {rm : Room} {as' : Array Value} {J0 : JJ} {Q' : Option Value → Heap → JJ → Prop} (M : Met l Z y zc zm zr false [] rm as' h J0 Q') (hE : Ext Z.heap h) :
    MetFree l y (head1 [Jvm.Cond.code y zc zm zr] rm) (fun a U => a = as' ∧ Z.Warmed39 U.vm ∧ U.heap = h) (fun _ _ _ _ _ => True) (fun _ U o U' => ∃ v L, o = .returned v ∧ ((∃ J', Q' v U'.heap J') ∧ Fr Z.heap.size L ∧ Ext Z.heap U'.heap ∧ h.size ≤ U'.heap.size) ∧ FrameEnd U o U' L rm.cells rm.slots) := by
  intro p e ha hc hk s m args below hf happ hP hK
  obtain ⟨n, o, h1, h2, h3, v, L, J', h4, ⟨h5, h6, h7, -⟩, h8, h9⟩ := M p e ha hc hk s m args below hf happ ⟨hP.1, hP.2.1, hP.2.2, hE, nofun⟩ hK
  exact ⟨n, o, h1, h2, h3, v, L, h4, ⟨⟨J', h5⟩, h6, h7, by have q := h8.2.2.2.2.1; rw [← hP.2.2]; exact q⟩, ⟨v, h4⟩, h9 rfl, h8.2.2.2⟩
theorem Met.wideBack {l : Launch} {p : Program} {e : Env} {s : State} {args : Array Value} {below : List Frame} {y : MethodName} {zc : ByteArray} {zm : Nat} {zr : Option FieldType} {rm : Room} {as' : Array Value} {J : JJ} {len W : Nat} {Q' : Option Value → Heap → JJ → Prop} (M : Met l Z y zc zm zr true [] rm as' h J Q') (hZ : Z.Warmed39 s.vm) (hE : Ext Z.heap h) (hB : Books Z s.vm J) (wc : (Cond.code y zc zm zr).before a0 Z = true) (wz : (Cond.initialized y.cls).before a0 Z = true) (hf : rm.frames + 1 ≤ R.frames) (hl : W + (zm + 11) + rm.locals ≤ R.locals) :
    BackS l R p e below s args y len W (fun A a => a = as' ∧ A.U.heap = h ∧ A.cells + rm.cells ≤ R.cells ∧ A.slots + rm.slots ≤ R.slots) (fun A _ v B => ∃ L, (∃ J', (Q' v B.U.heap J' ∧ Books Z B.U.vm J') ∧ Fr Z.heap.size L ∧ Ext Z.heap B.U.heap) ∧ B.locs = A.locs ++ L ∧ B.cells = A.cells + rm.cells ∧ B.slots = A.slots + rm.slots) :=
  BackS.of_freeW (bytes := zc) (maxL := zm) (ret := zr) (E := fun _ _ o t L k n => k = rm.cells ∧ n = rm.slots ∧ ∃ v J', o = .returned v ∧ (Q' v t.heap J' ∧ Books Z t.vm J') ∧ Fr Z.heap.size L ∧ Ext Z.heap t.heap) M hf hl
    (fun m meth c A a Y hp => have hU : Z.Warmed39 A.U.vm := wtrans hZ Y.warmed
      ⟨by show (Cond.and _ .tt).before a A.U = true; rw [Cond.before_and, mv hU wc]; rfl, mv hU wc, mv hU wz, hp.2.2.1, hp.2.2.2⟩)
    (fun m meth c A a g mk Y hp => ⟨hp.1, wtrans hZ Y.warmed, hp.2.1, hE, fun _ => Books.warm (s := s) (vm0 := s.vm) hB Y.warmed⟩) (fun _ _ _ _ _ _ _ _ _ => trivial)
    (fun _ _ _ _ ⟨v, L, J', h1, ⟨h2, h3, h4, h5⟩, h6⟩ => ⟨L, _, _, h6.1, rfl, rfl, v, J', h1, ⟨h2, h5 rfl⟩, h3, h4⟩)
    (fun m meth c A a g mk v t L k n Y hp _ _ ⟨e1, e2, v', J', e3, e4⟩ => by cases e3; subst e1 e2; exact ⟨L, ⟨J', e4⟩, rfl, rfl, rfl⟩)
theorem Wlk.callS {z : MethodName} {index : Nat} {zc : ByteArray} {zm : Nat} {rm : Room} {argsL : List Value} {stk : List Value} {W : Nat} {ps : List FieldType} {r : Option FieldType} {Q' : Option Value → Heap → JJ → Prop} {zr : Option FieldType} {J0 : JJ} (hd : decode code pc = .ok (.invokestatic index, 3)) (wl : (Cond.methodLink y.cls index z).before a0 Z = true) (ws : (Cond.static z).before a0 Z = true) (wz : (Cond.initialized z.cls).before a0 Z = true) (wc : (Cond.code z zc zm zr).before a0 Z = true) (hy : z.cls ≠ "java/lang/invoke/MethodHandle" ∧ z.cls ≠ "java/lang/invoke/VarHandle")
    (pd : parseMethodDescriptor z.desc = some ⟨ps, r⟩) (hlen : argsL.length = ps.length) (M : Met G.l Z z zc zm zr false [] rm argsL.toArray h J0 Q') (hf : rm.frames + 1 ≤ R.frames) (hW : (st.map fun v => v.category).sum = W) (hl : W + (zm + 11) + rm.locals ≤ R.locals) (hc : k + rm.cells ≤ R.cells) (hs : n + rm.slots ≤ R.slots) (hst : stk = argsL.reverse ++ st) (hp : pc + 3 = pc')
    (H : ∀ v h' J', Q' v h' J' → Wlk G R Z y code ret w J Q h' (k + rm.cells) (n + rm.slots) pc' Ls (v.toList ++ st)) : Wlk G R Z y code ret w J Q h k n pc Ls stk := by
  subst hp hst
  intro hG hsz T L hP
  obtain ⟨vm0, k0, X, eT, hS, hk, hZ, hown, hw, hB, hE, hF⟩ := hP
  have hZ' : Z.Warmed39 (G.s.setVm vm0).vm := hZ
  obtain ⟨v, vm₁, ⟨T', L', k', n'⟩, -, X', ⟨Lc, hQ, l1, y1, z1⟩, s'⟩ := Jvm.LawKit.callS X hG.1 (y := z) hown (mvT hZ' wl) (mvT hZ' ws) (mvT hZ' wz) (mvT hZ' wc) hy (backOf (W := W) (len := 3) (Q := fun v h' L => (∃ J', Q' v h' J') ∧ Fr Z.heap.size L ∧ Ext Z.heap h' ∧ h.size ≤ h'.size) (M.narrow hE) hZ' wc wz hf hl) (g := mkF G.m pc Ls (argsL.reverse ++ st)) rfl hsz (argsL := argsL) (rest := st) (lenOf pd hlen) rfl (by show 2 * 0 + _ ≤ _; omega) (hb hG.2.1 hd) (fun _ _ => ⟨rfl, eT, hc, hs⟩)
  dsimp only [Pt.U, Pt.locs, Pt.cells, Pt.slots] at X' l1 y1 z1 s' hQ
  subst l1 y1 z1
  obtain ⟨⟨J', hQ⟩, hFc, hEc, hgr⟩ := hQ
  obtain ⟨s₂, o, hs2, rr⟩ := H v T'.heap J' hQ hG hsz T' _ ⟨vm0, k0, X', rfl, hS, Nat.le_trans hk hgr, hZ, hown, hw, hB, hEc, Fr.app hF hFc⟩
  exact ⟨s₂, o, s' _ hs2, rr⟩
theorem Wlk.callSw {z : MethodName} {index : Nat} {zc : ByteArray} {zm : Nat} {rm : Room} {argsL : List Value} {stk : List Value} {W : Nat} {ps : List FieldType} {r : Option FieldType} {Q' : Option Value → Heap → JJ → Prop} {zr : Option FieldType} (hd : decode code pc = .ok (.invokestatic index, 3)) (wl : (Cond.methodLink y.cls index z).before a0 Z = true) (ws : (Cond.static z).before a0 Z = true) (wz : (Cond.initialized z.cls).before a0 Z = true) (wc : (Cond.code z zc zm zr).before a0 Z = true) (hy : z.cls ≠ "java/lang/invoke/MethodHandle" ∧ z.cls ≠ "java/lang/invoke/VarHandle")
    (pd : parseMethodDescriptor z.desc = some ⟨ps, r⟩) (hlen : argsL.length = ps.length) (M : Met G.l Z z zc zm zr true [] rm argsL.toArray h J Q') (hf : rm.frames + 1 ≤ R.frames) (hW : (st.map fun v => v.category).sum = W) (hl : W + (zm + 11) + rm.locals ≤ R.locals) (hc : k + rm.cells ≤ R.cells) (hs : n + rm.slots ≤ R.slots) (hst : stk = argsL.reverse ++ st) (hp : pc + 3 = pc')
    (H : ∀ v h' J', Q' v h' J' → Wlk G R Z y code ret true J' Q h' (k + rm.cells) (n + rm.slots) pc' Ls (v.toList ++ st)) : Wlk G R Z y code ret true J Q h k n pc Ls stk := by
  subst hp hst
  intro hG hsz T L hP
  obtain ⟨vm0, k0, X, eT, hS, hk, hZ, hown, hw, hB, hE, hF⟩ := hP
  have hZ' : Z.Warmed39 (G.s.setVm vm0).vm := hZ
  obtain ⟨v, vm₁, ⟨T', L', k', n'⟩, -, X', hS', hgr, ⟨Lc, hQ, l1, y1, z1⟩, s'⟩ := callSS X hG.1 (y := z) hown (mvT hZ' wl) (mvT hZ' ws) (mvT hZ' wz) (mvT hZ' wc) hy (Met.wideBack (W := W) (len := 3) M hZ' hE (hB rfl) wc wz hf hl) (g := mkF G.m pc Ls (argsL.reverse ++ st)) rfl hsz (argsL := argsL) (rest := st) (lenOf pd hlen) rfl (by show 2 * 0 + _ ≤ _; omega) (hb hG.2.1 hd) (fun _ _ => ⟨rfl, eT, hc, hs⟩)
  dsimp only [Pt.U, Pt.locs, Pt.cells, Pt.slots] at X' l1 y1 z1 s' hQ hS' hgr
  subst l1 y1 z1
  obtain ⟨J', ⟨hQ, hBc⟩, hFc, hEc⟩ := hQ
  obtain ⟨X2, hS2, hZ2, hown2⟩ := rebS (k0 := k0) (n1 := T.heap.size) hS (by rw [eT]; exact hk) X' hS' hgr hZ' hown
  obtain ⟨s₂, o, hs2, rr⟩ := H v T'.heap J' hQ hG hsz T' _ ⟨T'.vm, T'.heap.size, X2, rfl, hS2, Nat.le_refl _, hZ2, hown2, nofun, fun _ => hBc, hEc, Fr.app hF hFc⟩
  exact ⟨s₂, o, s'.trans hs2, rr⟩
theorem Wlk.callC {z : MethodName} {index : Nat} {zc : ByteArray} {zm : Nat} {rm : Room} {argsL : List Value} {stk : List Value} {W : Nat} {ps : List FieldType} {r : Option FieldType} {Q' : Option Value → Heap → JJ → Prop} {a : Addr} {J0 : JJ} (hd : decode code pc = .ok (.invokespecial index, 3)) (wl : (Cond.methodLink y.cls index z).before a0 Z = true) (wi : (Cond.instanceMethod z).before a0 Z = true) (wz : (Cond.initialized z.cls).before a0 Z = true) (wc : (Cond.code z zc zm none).before a0 Z = true) (hy : z.cls ≠ "java/lang/invoke/MethodHandle" ∧ z.cls ≠ "java/lang/invoke/VarHandle") (hin : z.name = "<init>")
    (pd : parseMethodDescriptor z.desc = some ⟨ps, r⟩) (hlen : argsL.length = ps.length) (M : Met G.l Z z zc zm none false [] rm (.ref a :: argsL).toArray h J0 Q') (hf : rm.frames + 1 ≤ R.frames) (hW : (st.map fun v => v.category).sum = W) (hl : W + (zm + 11) + rm.locals ≤ R.locals) (hc : k + rm.cells ≤ R.cells) (hs : n + rm.slots ≤ R.slots) (hst : stk = argsL.reverse ++ .ref a :: st) (hp : pc + 3 = pc')
    (H : ∀ v h' J', Q' v h' J' → Wlk G R Z y code ret w J Q h' (k + rm.cells) (n + rm.slots) pc' Ls (v.toList ++ st)) : Wlk G R Z y code ret w J Q h k n pc Ls stk := by
  subst hp hst
  intro hG hsz T L hP
  obtain ⟨vm0, k0, X, eT, hS, hk, hZ, hown, hw, hB, hE, hF⟩ := hP
  have hZ' : Z.Warmed39 (G.s.setVm vm0).vm := hZ
  obtain ⟨v, vm₁, ⟨T', L', k', n'⟩, -, X', ⟨Lc, hQ, l1, y1, z1⟩, s'⟩ := X.specialBack hG.1 (y := z) hin hown (mvT hZ' wl) (mvT hZ' wi) (mvT hZ' wc) hy (backOf (W := W) (len := 3) (Q := fun v h' L => (∃ J', Q' v h' J') ∧ Fr Z.heap.size L ∧ Ext Z.heap h' ∧ h.size ≤ h'.size) (M.narrow hE) hZ' wc wz hf hl) (g := mkF G.m pc Ls (argsL.reverse ++ .ref a :: st)) rfl hsz (Steps.refl _) (a := a) (argsL := argsL) (rest := st) (lenOf pd hlen) rfl (by show 2 * 0 + _ ≤ _; omega) (hb hG.2.1 hd) (fun _ _ => ⟨rfl, eT, hc, hs⟩)
  dsimp only [Pt.U, Pt.locs, Pt.cells, Pt.slots] at X' l1 y1 z1 s' hQ
  subst l1 y1 z1
  obtain ⟨⟨J', hQ⟩, hFc, hEc, hgr⟩ := hQ
  obtain ⟨s₂, o, hs2, rr⟩ := H v T'.heap J' hQ hG hsz T' _ ⟨vm0, k0, X', rfl, hS, Nat.le_trans hk hgr, hZ, hown, hw, hB, hEc, Fr.app hF hFc⟩
  exact ⟨s₂, o, s'.trans hs2, rr⟩
theorem Wlk.callCw {z : MethodName} {index : Nat} {zc : ByteArray} {zm : Nat} {rm : Room} {argsL : List Value} {stk : List Value} {W : Nat} {ps : List FieldType} {r : Option FieldType} {Q' : Option Value → Heap → JJ → Prop} {a : Addr} (hd : decode code pc = .ok (.invokespecial index, 3)) (wl : (Cond.methodLink y.cls index z).before a0 Z = true) (wi : (Cond.instanceMethod z).before a0 Z = true) (wz : (Cond.initialized z.cls).before a0 Z = true) (wc : (Cond.code z zc zm none).before a0 Z = true) (hy : z.cls ≠ "java/lang/invoke/MethodHandle" ∧ z.cls ≠ "java/lang/invoke/VarHandle") (hin : z.name = "<init>")
    (pd : parseMethodDescriptor z.desc = some ⟨ps, r⟩) (hlen : argsL.length = ps.length) (M : Met G.l Z z zc zm none true [] rm (.ref a :: argsL).toArray h J Q') (hf : rm.frames + 1 ≤ R.frames) (hW : (st.map fun v => v.category).sum = W) (hl : W + (zm + 11) + rm.locals ≤ R.locals) (hc : k + rm.cells ≤ R.cells) (hs : n + rm.slots ≤ R.slots) (hst : stk = argsL.reverse ++ .ref a :: st) (hp : pc + 3 = pc')
    (H : ∀ v h' J', Q' v h' J' → Wlk G R Z y code ret true J' Q h' (k + rm.cells) (n + rm.slots) pc' Ls (v.toList ++ st)) : Wlk G R Z y code ret true J Q h k n pc Ls stk := by
  subst hp hst
  intro hG hsz T L hP
  obtain ⟨vm0, k0, X, eT, hS, hk, hZ, hown, hw, hB, hE, hF⟩ := hP
  have hZ' : Z.Warmed39 (G.s.setVm vm0).vm := hZ
  obtain ⟨v, vm₁, ⟨T', L', k', n'⟩, -, X', hS', hgr, ⟨Lc, hQ, l1, y1, z1⟩, s'⟩ := X.specialBackS hG.1 (y := z) hin hown (mvT hZ' wl) (mvT hZ' wi) (mvT hZ' wc) hy (Met.wideBack (W := W) (len := 3) M hZ' hE (hB rfl) wc wz hf hl) (g := mkF G.m pc Ls (argsL.reverse ++ .ref a :: st)) rfl hsz (Steps.refl _) (a := a) (argsL := argsL) (rest := st) (lenOf pd hlen) rfl (by show 2 * 0 + _ ≤ _; omega) (hb hG.2.1 hd) (fun _ _ => ⟨rfl, eT, hc, hs⟩)
  dsimp only [Pt.U, Pt.locs, Pt.cells, Pt.slots] at X' l1 y1 z1 s' hQ hS' hgr
  subst l1 y1 z1
  obtain ⟨J', ⟨hQ, hBc⟩, hFc, hEc⟩ := hQ
  obtain ⟨X2, hS2, hZ2, hown2⟩ := rebS (k0 := k0) (n1 := T.heap.size) hS (by rw [eT]; exact hk) X' hS' hgr hZ' hown
  obtain ⟨s₂, o, hs2, rr⟩ := H v T'.heap J' hQ hG hsz T' _ ⟨T'.vm, T'.heap.size, X2, rfl, hS2, Nat.le_refl _, hZ2, hown2, nofun, fun _ => hBc, hEc, Fr.app hF hFc⟩
  exact ⟨s₂, o, s'.trans hs2, rr⟩
theorem Wlk.callV {z : MethodName} {index : Nat} {zc : ByteArray} {zm : Nat} {rm : Room} {argsL : List Value} {stk : List Value} {W : Nat} {ps : List FieldType} {r : Option FieldType} {Q' : Option Value → Heap → JJ → Prop} {zr : Option FieldType} {a : Addr} {x : MethodName} {C : String} {J0 : JJ} (hd : decode code pc = .ok (.invokevirtual index, 3)) (wl : (Cond.methodLink y.cls index x).before a0 Z = true) (wd : (Cond.declares x).before a0 Z = true) (wn : ∀ s : State, Z.Warmed39 s.vm → NotFace s x) (wsel : (Cond.selects C x z).before a0 Z = true) (wi : (Cond.instanceMethod z).before a0 Z = true) (E : Exa Z h a C) (wz : (Cond.initialized z.cls).before a0 Z = true) (wc : (Cond.code z zc zm zr).before a0 Z = true) (hy : x.cls ≠ "java/lang/invoke/MethodHandle" ∧ x.cls ≠ "java/lang/invoke/VarHandle")
    (pd : parseMethodDescriptor x.desc = some ⟨ps, r⟩) (hlen : argsL.length = ps.length) (M : Met G.l Z z zc zm zr false [] rm (.ref a :: argsL).toArray h J0 Q') (hf : rm.frames + 1 ≤ R.frames) (hW : (st.map fun v => v.category).sum = W) (hl : W + (zm + 11) + rm.locals ≤ R.locals) (hc : k + rm.cells ≤ R.cells) (hs : n + rm.slots ≤ R.slots) (hst : stk = argsL.reverse ++ .ref a :: st) (hp : pc + 3 = pc')
    (H : ∀ v h' J', Q' v h' J' → Wlk G R Z y code ret w J Q h' (k + rm.cells) (n + rm.slots) pc' Ls (v.toList ++ st)) : Wlk G R Z y code ret w J Q h k n pc Ls stk := by
  subst hp hst
  intro hG hsz T L hP
  obtain ⟨vm0, k0, X, eT, hS, hk, hZ, hown, hw, hB, hE, hF⟩ := hP
  have hZ' : Z.Warmed39 (G.s.setVm vm0).vm := hZ
  obtain ⟨cq, kq, qa, qb, qc⟩ := isOf hZ' eT E
  obtain ⟨v, vm₁, ⟨T', L', k', n'⟩, -, X', ⟨Lc, hQ, l1, y1, z1⟩, s'⟩ := X.virtualBack hG.1 (y := x) (z := z) hown (mvT hZ' wl) (mvT hZ' wd) (wn _ hZ') (mvT hZ' wsel) (mvT hZ' wi) hy (backOf (W := W) (len := 3) (Q := fun v h' L => (∃ J', Q' v h' J') ∧ Fr Z.heap.size L ∧ Ext Z.heap h' ∧ h.size ≤ h'.size) (M.narrow hE) hZ' wc wz hf hl) qa qc (g := mkF G.m pc Ls (argsL.reverse ++ .ref a :: st)) rfl hsz (Steps.refl _) (argsL := argsL) (rest := st) (lenOf pd hlen) rfl (by show 2 * 0 + _ ≤ _; omega) (hb hG.2.1 hd) (fun _ _ => ⟨rfl, eT, hc, hs⟩)
  dsimp only [Pt.U, Pt.locs, Pt.cells, Pt.slots] at X' l1 y1 z1 s' hQ
  subst l1 y1 z1
  obtain ⟨⟨J', hQ⟩, hFc, hEc, hgr⟩ := hQ
  obtain ⟨s₂, o, hs2, rr⟩ := H v T'.heap J' hQ hG hsz T' _ ⟨vm0, k0, X', rfl, hS, Nat.le_trans hk hgr, hZ, hown, hw, hB, hEc, Fr.app hF hFc⟩
  exact ⟨s₂, o, s'.trans hs2, rr⟩
theorem Wlk.callVw {z : MethodName} {index : Nat} {zc : ByteArray} {zm : Nat} {rm : Room} {argsL : List Value} {stk : List Value} {W : Nat} {ps : List FieldType} {r : Option FieldType} {Q' : Option Value → Heap → JJ → Prop} {zr : Option FieldType} {a : Addr} {x : MethodName} {C : String} (hd : decode code pc = .ok (.invokevirtual index, 3)) (wl : (Cond.methodLink y.cls index x).before a0 Z = true) (wd : (Cond.declares x).before a0 Z = true) (wn : ∀ s : State, Z.Warmed39 s.vm → NotFace s x) (wsel : (Cond.selects C x z).before a0 Z = true) (wi : (Cond.instanceMethod z).before a0 Z = true) (E : Exa Z h a C) (wz : (Cond.initialized z.cls).before a0 Z = true) (wc : (Cond.code z zc zm zr).before a0 Z = true) (hy : x.cls ≠ "java/lang/invoke/MethodHandle" ∧ x.cls ≠ "java/lang/invoke/VarHandle")
    (pd : parseMethodDescriptor x.desc = some ⟨ps, r⟩) (hlen : argsL.length = ps.length) (M : Met G.l Z z zc zm zr true [] rm (.ref a :: argsL).toArray h J Q') (hf : rm.frames + 1 ≤ R.frames) (hW : (st.map fun v => v.category).sum = W) (hl : W + (zm + 11) + rm.locals ≤ R.locals) (hc : k + rm.cells ≤ R.cells) (hs : n + rm.slots ≤ R.slots) (hst : stk = argsL.reverse ++ .ref a :: st) (hp : pc + 3 = pc')
    (H : ∀ v h' J', Q' v h' J' → Wlk G R Z y code ret true J' Q h' (k + rm.cells) (n + rm.slots) pc' Ls (v.toList ++ st)) : Wlk G R Z y code ret true J Q h k n pc Ls stk := by
  subst hp hst
  intro hG hsz T L hP
  obtain ⟨vm0, k0, X, eT, hS, hk, hZ, hown, hw, hB, hE, hF⟩ := hP
  have hZ' : Z.Warmed39 (G.s.setVm vm0).vm := hZ
  obtain ⟨cq, kq, qa, qb, qc⟩ := isOf hZ' eT E
  obtain ⟨v, vm₁, ⟨T', L', k', n'⟩, -, X', hS', hgr, ⟨Lc, hQ, l1, y1, z1⟩, s'⟩ := X.virtualBackS hG.1 (y := x) (z := z) hown (mvT hZ' wl) (mvT hZ' wd) (wn _ hZ') (mvT hZ' wsel) (mvT hZ' wi) hy (Met.wideBack (W := W) (len := 3) M hZ' hE (hB rfl) wc wz hf hl) qa qc (g := mkF G.m pc Ls (argsL.reverse ++ .ref a :: st)) rfl hsz (Steps.refl _) (argsL := argsL) (rest := st) (lenOf pd hlen) rfl (by show 2 * 0 + _ ≤ _; omega) (hb hG.2.1 hd) (fun _ _ => ⟨rfl, eT, hc, hs⟩)
  dsimp only [Pt.U, Pt.locs, Pt.cells, Pt.slots] at X' l1 y1 z1 s' hQ hS' hgr
  subst l1 y1 z1
  obtain ⟨J', ⟨hQ, hBc⟩, hFc, hEc⟩ := hQ
  obtain ⟨X2, hS2, hZ2, hown2⟩ := rebS (k0 := k0) (n1 := T.heap.size) hS (by rw [eT]; exact hk) X' hS' hgr hZ' hown
  obtain ⟨s₂, o, hs2, rr⟩ := H v T'.heap J' hQ hG hsz T' _ ⟨T'.vm, T'.heap.size, X2, rfl, hS2, Nat.le_refl _, hZ2, hown2, nofun, fun _ => hBc, hEc, Fr.app hF hFc⟩
  exact ⟨s₂, o, s'.trans hs2, rr⟩
theorem Wlk.callP {z : MethodName} {index : Nat} {zc : ByteArray} {zm : Nat} {rm : Room} {argsL : List Value} {stk : List Value} {W : Nat} {ps : List FieldType} {r : Option FieldType} {Q' : Option Value → Heap → JJ → Prop} {zr : Option FieldType} {a : Addr} {J0 : JJ} (hd : decode code pc = .ok (.invokevirtual index, 3)) (wl : (Cond.methodLink y.cls index z).before a0 Z = true) (wi : (Cond.instanceMethod z).before a0 Z = true) (wsel : (Cond.selects z.cls z z).before a0 Z = true) (wp : (Cond.privateMethod z).before a0 Z = true) {C : String} (E : Exa Z h a C) (wz : (Cond.initialized z.cls).before a0 Z = true) (wc : (Cond.code z zc zm zr).before a0 Z = true) (hy : z.cls ≠ "java/lang/invoke/MethodHandle" ∧ z.cls ≠ "java/lang/invoke/VarHandle")
    (pd : parseMethodDescriptor z.desc = some ⟨ps, r⟩) (hlen : argsL.length = ps.length) (M : Met G.l Z z zc zm zr false [] rm (.ref a :: argsL).toArray h J0 Q') (hf : rm.frames + 1 ≤ R.frames) (hW : (st.map fun v => v.category).sum = W) (hl : W + (zm + 11) + rm.locals ≤ R.locals) (hc : k + rm.cells ≤ R.cells) (hs : n + rm.slots ≤ R.slots) (hst : stk = argsL.reverse ++ .ref a :: st) (hp : pc + 3 = pc')
    (H : ∀ v h' J', Q' v h' J' → Wlk G R Z y code ret w J Q h' (k + rm.cells) (n + rm.slots) pc' Ls (v.toList ++ st)) : Wlk G R Z y code ret w J Q h k n pc Ls stk := by
  subst hp hst
  intro hG hsz T L hP
  obtain ⟨vm0, k0, X, eT, hS, hk, hZ, hown, hw, hB, hE, hF⟩ := hP
  have hZ' : Z.Warmed39 (G.s.setVm vm0).vm := hZ
  obtain ⟨cq, q1, q2⟩ := E.cell
  obtain ⟨v, vm₁, ⟨T', L', k', n'⟩, -, X', ⟨Lc, hQ, l1, y1, z1⟩, s'⟩ := X.privateBack hG.1 (y := z) hown (mvT hZ' wl) (mvT hZ' wi) (mvT hZ' wsel) (Cond.privateMethod_at (mvP hZ' wp (args := #[]))) (mvT hZ' wc) hy (backOf (W := W) (len := 3) (Q := fun v h' L => (∃ J', Q' v h' J') ∧ Fr Z.heap.size L ∧ Ext Z.heap h' ∧ h.size ≤ h'.size) (M.narrow hE) hZ' wc wz hf hl) (g := mkF G.m pc Ls (argsL.reverse ++ .ref a :: st)) rfl hsz (Steps.refl _) (a := a) (by rw [eT]; exact q1) q2 (argsL := argsL) (rest := st) (lenOf pd hlen) rfl (by show 2 * 0 + _ ≤ _; omega) (hb hG.2.1 hd) (fun _ _ => ⟨rfl, eT, hc, hs⟩)
  dsimp only [Pt.U, Pt.locs, Pt.cells, Pt.slots] at X' l1 y1 z1 s' hQ
  subst l1 y1 z1
  obtain ⟨⟨J', hQ⟩, hFc, hEc, hgr⟩ := hQ
  obtain ⟨s₂, o, hs2, rr⟩ := H v T'.heap J' hQ hG hsz T' _ ⟨vm0, k0, X', rfl, hS, Nat.le_trans hk hgr, hZ, hown, hw, hB, hEc, Fr.app hF hFc⟩
  exact ⟨s₂, o, s'.trans hs2, rr⟩
theorem Wlk.callPw {z : MethodName} {index : Nat} {zc : ByteArray} {zm : Nat} {rm : Room} {argsL : List Value} {stk : List Value} {W : Nat} {ps : List FieldType} {r : Option FieldType} {Q' : Option Value → Heap → JJ → Prop} {zr : Option FieldType} {a : Addr} (hd : decode code pc = .ok (.invokevirtual index, 3)) (wl : (Cond.methodLink y.cls index z).before a0 Z = true) (wi : (Cond.instanceMethod z).before a0 Z = true) (wsel : (Cond.selects z.cls z z).before a0 Z = true) (wp : (Cond.privateMethod z).before a0 Z = true) {C : String} (E : Exa Z h a C) (wz : (Cond.initialized z.cls).before a0 Z = true) (wc : (Cond.code z zc zm zr).before a0 Z = true) (hy : z.cls ≠ "java/lang/invoke/MethodHandle" ∧ z.cls ≠ "java/lang/invoke/VarHandle")
    (pd : parseMethodDescriptor z.desc = some ⟨ps, r⟩) (hlen : argsL.length = ps.length) (M : Met G.l Z z zc zm zr true [] rm (.ref a :: argsL).toArray h J Q') (hf : rm.frames + 1 ≤ R.frames) (hW : (st.map fun v => v.category).sum = W) (hl : W + (zm + 11) + rm.locals ≤ R.locals) (hc : k + rm.cells ≤ R.cells) (hs : n + rm.slots ≤ R.slots) (hst : stk = argsL.reverse ++ .ref a :: st) (hp : pc + 3 = pc')
    (H : ∀ v h' J', Q' v h' J' → Wlk G R Z y code ret true J' Q h' (k + rm.cells) (n + rm.slots) pc' Ls (v.toList ++ st)) : Wlk G R Z y code ret true J Q h k n pc Ls stk := by
  subst hp hst
  intro hG hsz T L hP
  obtain ⟨vm0, k0, X, eT, hS, hk, hZ, hown, hw, hB, hE, hF⟩ := hP
  have hZ' : Z.Warmed39 (G.s.setVm vm0).vm := hZ
  obtain ⟨cq, q1, q2⟩ := E.cell
  obtain ⟨v, vm₁, ⟨T', L', k', n'⟩, -, X', hS', hgr, ⟨Lc, hQ, l1, y1, z1⟩, s'⟩ := X.privateBackS hG.1 (y := z) hown (mvT hZ' wl) (mvT hZ' wi) (mvT hZ' wsel) (Cond.privateMethod_at (mvP hZ' wp (args := #[]))) (mvT hZ' wc) hy (Met.wideBack (W := W) (len := 3) M hZ' hE (hB rfl) wc wz hf hl) (g := mkF G.m pc Ls (argsL.reverse ++ .ref a :: st)) rfl hsz (Steps.refl _) (a := a) (by rw [eT]; exact q1) q2 (argsL := argsL) (rest := st) (lenOf pd hlen) rfl (by show 2 * 0 + _ ≤ _; omega) (hb hG.2.1 hd) (fun _ _ => ⟨rfl, eT, hc, hs⟩)
  dsimp only [Pt.U, Pt.locs, Pt.cells, Pt.slots] at X' l1 y1 z1 s' hQ hS' hgr
  subst l1 y1 z1
  obtain ⟨J', ⟨hQ, hBc⟩, hFc, hEc⟩ := hQ
  obtain ⟨X2, hS2, hZ2, hown2⟩ := rebS (k0 := k0) (n1 := T.heap.size) hS (by rw [eT]; exact hk) X' hS' hgr hZ' hown
  obtain ⟨s₂, o, hs2, rr⟩ := H v T'.heap J' hQ hG hsz T' _ ⟨T'.vm, T'.heap.size, X2, rfl, hS2, Nat.le_refl _, hZ2, hown2, nofun, fun _ => hBc, hEc, Fr.app hF hFc⟩
  exact ⟨s₂, o, s'.trans hs2, rr⟩
theorem Wlk.callI {z : MethodName} {index : Nat} {zc : ByteArray} {zm : Nat} {rm : Room} {argsL : List Value} {stk : List Value} {W : Nat} {ps : List FieldType} {r : Option FieldType} {Q' : Option Value → Heap → JJ → Prop} {zr : Option FieldType} {a : Addr} {x : MethodName} {C : String} {count : Nat} {J0 : JJ} (hd : decode code pc = .ok (.invokeinterface index count, 5)) (wl : (Cond.methodLink y.cls index x).before a0 Z = true) (wd : (Cond.declares x).before a0 Z = true) (wf : ∀ s : State, Z.Warmed39 s.vm → (Cond.interfaceMethod x.cls x.cls x.name x.desc).before G.args s = true) (wsel : (Cond.selects C x z).before a0 Z = true) (wi : (Cond.instanceMethod z).before a0 Z = true) (wpub : (Cond.publicMethod z).before a0 Z = true) (wun : (Cond.unhidden C x.name x.desc).before a0 Z = true) (wca : (Cond.castable C x.cls).before a0 Z = true) (E : Exa Z h a C) (wz : (Cond.initialized z.cls).before a0 Z = true) (wc : (Cond.code z zc zm zr).before a0 Z = true) (hy : x.cls ≠ "java/lang/invoke/MethodHandle" ∧ x.cls ≠ "java/lang/invoke/VarHandle")
    (pd : parseMethodDescriptor x.desc = some ⟨ps, r⟩) (hlen : argsL.length = ps.length) (M : Met G.l Z z zc zm zr false [] rm (.ref a :: argsL).toArray h J0 Q') (hf : rm.frames + 1 ≤ R.frames) (hW : (st.map fun v => v.category).sum = W) (hl : W + (zm + 11) + rm.locals ≤ R.locals) (hc : k + rm.cells ≤ R.cells) (hs : n + rm.slots ≤ R.slots) (hst : stk = argsL.reverse ++ .ref a :: st) (hp : pc + 5 = pc')
    (H : ∀ v h' J', Q' v h' J' → Wlk G R Z y code ret w J Q h' (k + rm.cells) (n + rm.slots) pc' Ls (v.toList ++ st)) : Wlk G R Z y code ret w J Q h k n pc Ls stk := by
  subst hp hst
  intro hG hsz T L hP
  obtain ⟨vm0, k0, X, eT, hS, hk, hZ, hown, hw, hB, hE, hF⟩ := hP
  have hZ' : Z.Warmed39 (G.s.setVm vm0).vm := hZ
  obtain ⟨cq, kq, qa, qb, qc⟩ := isOf hZ' eT E
  obtain ⟨v, vm₁, ⟨T', L', k', n'⟩, -, X', ⟨Lc, hQ, l1, y1, z1⟩, s'⟩ := X.interfaceBack hG.1 (xi := x) (y := z) hown (mvT hZ' wl) (mvT hZ' wd) (wf _ hZ') (mvT hZ' wsel) (mvT hZ' wi) (mvT hZ' wpub) (mvT hZ' wun) (mvT hZ' wca) hy (backOf (W := W) (len := 5) (Q := fun v h' L => (∃ J', Q' v h' J') ∧ Fr Z.heap.size L ∧ Ext Z.heap h' ∧ h.size ≤ h'.size) (M.narrow hE) hZ' wc wz hf hl) qa qb qc (g := mkF G.m pc Ls (argsL.reverse ++ .ref a :: st)) rfl hsz (Steps.refl _) (argsL := argsL) (rest := st) (lenOf pd hlen) rfl (by show 2 * 0 + _ ≤ _; omega) (hb hG.2.1 hd) (fun _ _ => ⟨rfl, eT, hc, hs⟩)
  dsimp only [Pt.U, Pt.locs, Pt.cells, Pt.slots] at X' l1 y1 z1 s' hQ
  subst l1 y1 z1
  obtain ⟨⟨J', hQ⟩, hFc, hEc, hgr⟩ := hQ
  obtain ⟨s₂, o, hs2, rr⟩ := H v T'.heap J' hQ hG hsz T' _ ⟨vm0, k0, X', rfl, hS, Nat.le_trans hk hgr, hZ, hown, hw, hB, hEc, Fr.app hF hFc⟩
  exact ⟨s₂, o, s'.trans hs2, rr⟩
theorem Wlk.callIw {z : MethodName} {index : Nat} {zc : ByteArray} {zm : Nat} {rm : Room} {argsL : List Value} {stk : List Value} {W : Nat} {ps : List FieldType} {r : Option FieldType} {Q' : Option Value → Heap → JJ → Prop} {zr : Option FieldType} {a : Addr} {x : MethodName} {C : String} {count : Nat} (hd : decode code pc = .ok (.invokeinterface index count, 5)) (wl : (Cond.methodLink y.cls index x).before a0 Z = true) (wd : (Cond.declares x).before a0 Z = true) (wf : ∀ s : State, Z.Warmed39 s.vm → (Cond.interfaceMethod x.cls x.cls x.name x.desc).before G.args s = true) (wsel : (Cond.selects C x z).before a0 Z = true) (wi : (Cond.instanceMethod z).before a0 Z = true) (wpub : (Cond.publicMethod z).before a0 Z = true) (wun : (Cond.unhidden C x.name x.desc).before a0 Z = true) (wca : (Cond.castable C x.cls).before a0 Z = true) (E : Exa Z h a C) (wz : (Cond.initialized z.cls).before a0 Z = true) (wc : (Cond.code z zc zm zr).before a0 Z = true) (hy : x.cls ≠ "java/lang/invoke/MethodHandle" ∧ x.cls ≠ "java/lang/invoke/VarHandle")
    (pd : parseMethodDescriptor x.desc = some ⟨ps, r⟩) (hlen : argsL.length = ps.length) (M : Met G.l Z z zc zm zr true [] rm (.ref a :: argsL).toArray h J Q') (hf : rm.frames + 1 ≤ R.frames) (hW : (st.map fun v => v.category).sum = W) (hl : W + (zm + 11) + rm.locals ≤ R.locals) (hc : k + rm.cells ≤ R.cells) (hs : n + rm.slots ≤ R.slots) (hst : stk = argsL.reverse ++ .ref a :: st) (hp : pc + 5 = pc')
    (H : ∀ v h' J', Q' v h' J' → Wlk G R Z y code ret true J' Q h' (k + rm.cells) (n + rm.slots) pc' Ls (v.toList ++ st)) : Wlk G R Z y code ret true J Q h k n pc Ls stk := by
  subst hp hst
  intro hG hsz T L hP
  obtain ⟨vm0, k0, X, eT, hS, hk, hZ, hown, hw, hB, hE, hF⟩ := hP
  have hZ' : Z.Warmed39 (G.s.setVm vm0).vm := hZ
  obtain ⟨cq, kq, qa, qb, qc⟩ := isOf hZ' eT E
  obtain ⟨v, vm₁, ⟨T', L', k', n'⟩, -, X', hS', hgr, ⟨Lc, hQ, l1, y1, z1⟩, s'⟩ := X.interfaceBackS hG.1 (xi := x) (y := z) hown (mvT hZ' wl) (mvT hZ' wd) (wf _ hZ') (mvT hZ' wsel) (mvT hZ' wi) (mvT hZ' wpub) (mvT hZ' wun) (mvT hZ' wca) hy (Met.wideBack (W := W) (len := 5) M hZ' hE (hB rfl) wc wz hf hl) qa qb qc (g := mkF G.m pc Ls (argsL.reverse ++ .ref a :: st)) rfl hsz (Steps.refl _) (argsL := argsL) (rest := st) (lenOf pd hlen) rfl (by show 2 * 0 + _ ≤ _; omega) (hb hG.2.1 hd) (fun _ _ => ⟨rfl, eT, hc, hs⟩)
  dsimp only [Pt.U, Pt.locs, Pt.cells, Pt.slots] at X' l1 y1 z1 s' hQ hS' hgr
  subst l1 y1 z1
  obtain ⟨J', ⟨hQ, hBc⟩, hFc, hEc⟩ := hQ
  obtain ⟨X2, hS2, hZ2, hown2⟩ := rebS (k0 := k0) (n1 := T.heap.size) hS (by rw [eT]; exact hk) X' hS' hgr hZ' hown
  obtain ⟨s₂, o, hs2, rr⟩ := H v T'.heap J' hQ hG hsz T' _ ⟨T'.vm, T'.heap.size, X2, rfl, hS2, Nat.le_refl _, hZ2, hown2, nofun, fun _ => hBc, hEc, Fr.app hF hFc⟩
  exact ⟨s₂, o, s'.trans hs2, rr⟩
/-- a constructor that a pasted law of the kit pays -/
theorem Wlk.callCB {z : MethodName} {index : Nat} {zc : ByteArray} {zm ck cs : Nat} {argsL : List Value} {stk : List Value} {W : Nat} {ps : List FieldType} {r : Option FieldType} {QQ : Option Value → Heap → List Loc → Prop} {a : Addr} (hd : decode code pc = .ok (.invokespecial index, 3)) (wl : (Cond.methodLink y.cls index z).before a0 Z = true) (wi : (Cond.instanceMethod z).before a0 Z = true) (wc : (Cond.code z zc zm none).before a0 Z = true) (hy : z.cls ≠ "java/lang/invoke/MethodHandle" ∧ z.cls ≠ "java/lang/invoke/VarHandle") (hin : z.name = "<init>")
    (pd : parseMethodDescriptor z.desc = some ⟨ps, r⟩) (hlen : argsL.length = ps.length) (hW : (st.map fun v => v.category).sum = W)
    (hK : ∀ s : State, Z.Warmed39 s.vm → Ext Z.heap h → Back G.l R G.p G.e G.below s G.args z 3 W (fun P v => v = (.ref a :: argsL).toArray ∧ P.U.heap = h ∧ P.cells + ck ≤ R.cells ∧ P.slots + cs ≤ R.slots) (fun P _ v B => ∃ L, QQ v B.U.heap L ∧ B.locs = P.locs ++ L ∧ B.cells = P.cells + ck ∧ B.slots = P.slots + cs))
    (hQ : ∀ v h' L, Ext Z.heap h → QQ v h' L → Fr Z.heap.size L ∧ Ext Z.heap h' ∧ h.size ≤ h'.size) (hc : k + ck ≤ R.cells) (hs : n + cs ≤ R.slots) (hst : stk = argsL.reverse ++ .ref a :: st) (hp : pc + 3 = pc')
    (H : ∀ v h' L, QQ v h' L → Wlk G R Z y code ret w J Q h' (k + ck) (n + cs) pc' Ls (v.toList ++ st)) : Wlk G R Z y code ret w J Q h k n pc Ls stk := by
  subst hp hst
  intro hG hsz T L hP
  obtain ⟨vm0, k0, X, eT, hS, hk, hZ, hown, hw, hB, hE, hF⟩ := hP
  have hZ' : Z.Warmed39 (G.s.setVm vm0).vm := hZ
  obtain ⟨v, vm₁, ⟨T', L', k', n'⟩, -, X', ⟨Lc, hQ1, l1, y1, z1⟩, s'⟩ := X.specialBack hG.1 (y := z) hin hown (mvT hZ' wl) (mvT hZ' wi) (mvT hZ' wc) hy (hK _ hZ' hE) (g := mkF G.m pc Ls (argsL.reverse ++ .ref a :: st)) rfl hsz (Steps.refl _) (a := a) (argsL := argsL) (rest := st) (lenOf pd hlen) rfl (by show 2 * 0 + _ ≤ _; omega) (hb hG.2.1 hd) (fun _ _ => ⟨rfl, eT, hc, hs⟩)
  dsimp only [Pt.U, Pt.locs, Pt.cells, Pt.slots] at X' l1 y1 z1 s' hQ1
  subst l1 y1 z1
  obtain ⟨hFc, hEc, hgr⟩ := hQ _ _ _ hE hQ1
  obtain ⟨s₂, o, hs2, rr⟩ := H v T'.heap Lc hQ1 hG hsz T' _ ⟨vm0, k0, X', rfl, hS, Nat.le_trans hk hgr, hZ, hown, hw, hB, hEc, Fr.app hF hFc⟩
  exact ⟨s₂, o, s'.trans hs2, rr⟩
theorem ext_keep {a : Addr} {h' : Heap} (hE : Ext Z.heap h) (g : Z.heap.size ≤ a) (K : Keep h h' [a]) : Ext Z.heap h' := (Old.keep (n0 := Z.heap.size) ⟨rfl, hE⟩ K (allS g all0)).2
/-! ## String constants (wide walks) -/
theorem Stand.rebase {p : Program} {l : Launch} {e : Env} {s : State} {m : MethodId} {args : Array Value} {below : List Frame} {meth : Method} {c : Code} {T : State} {locs : List Loc} {cells slots ck cs : Nat} (X : Stand p l e R s m args below meth c T locs cells slots) (hc : cells + ck ≤ R.cells) (hs : slots + cs ≤ R.slots) :
    Stand p l e ({ frames := R.frames, cells := ck, slots := cs, locals := R.locals } : Room) (({ s with heap := T.heap, slotsUsed := T.slotsUsed } : State).setVm T.vm) m args below meth c T [] 0 0 := by
  have Y := X.retabled X.warmed.wide
  have hroom : (({ s with heap := T.heap, slotsUsed := T.slotsUsed } : State).setVm T.vm).hasRoom e.platform ({ frames := R.frames, cells := ck, slots := cs, locals := R.locals } : Room) = true := by
    have h0 := Y.room
    have h1 := X.heapSize
    have h2 := X.used
    have h3 := X.book
    simp only [State.hasRoom, Bool.and_eq_true, decide_eq_true_eq] at h0 ⊢
    obtain ⟨⟨⟨⟨a1, a2⟩, a3⟩, a4⟩, a5⟩ := h0
    refine ⟨⟨⟨⟨a1, a2⟩, ?_⟩, ?_⟩, h3⟩
    · have a3' : s.heap.size + R.cells ≤ e.platform.maxCells := a3
      show T.heap.size + ck ≤ _
      omega
    · have a4' : s.slotsUsed + R.slots ≤ e.platform.maxSlots := a4
      show T.slotsUsed + cs ≤ _
      omega
  refine ⟨Y.admits, Y.cas, Y.clock, Y.frames, hroom, Y.hears, Y.method, Y.code, X.here, X.tail, State.WarmedH.refl T, X.limits, X.bytes, ?_⟩
  refine ⟨?_, Nat.le_refl _, Nat.le_refl _, ?_, ?_, fun a cl ha => ⟨cl, ha, rfl, rfl, fun _ _ => rfl⟩⟩
  · have q := Y.same.1
    exact q
  · show T.slotsUsed = T.slotsUsed + ((T.heap.toList.drop T.heap.size).map (·.slots.size)).sum
    rw [List.drop_eq_nil_of_le (Nat.le_of_eq Array.length_toList)]
    rfl
  · show ((T.heap.toList.drop T.heap.size).map (·.slots.size)).sum ≤ 0
    rw [List.drop_eq_nil_of_le (Nat.le_of_eq Array.length_toList)]
    exact Nat.le_refl _
theorem Stand.unbase {p : Program} {l : Launch} {e : Env} {s : State} {m : MethodId} {args : Array Value} {below : List Frame} {meth : Method} {c : Code} {T T' : State} {R' : Room} {locs l₂ : List Loc} {cells slots c₂ n₂ k1 : Nat} (X : Stand p l e R s m args below meth c T locs cells slots)
    (X' : Stand p l e R' (({ s with heap := T.heap, slotsUsed := T.slotsUsed } : State).setVm T'.vm) m args below meth c T' l₂ c₂ n₂) (hS : (({ s with heap := T.heap, slotsUsed := T.slotsUsed } : State).setVm T.vm).Since T'.vm k1) (hk : k1 ≤ T'.heap.size) :
    Stand p l e R (s.setVm T'.vm) m args below meth c T' (locs ++ l₂) (cells + c₂) (slots + n₂) ∧ s.Since T'.vm T'.heap.size ∧ T.Warmed39 T'.vm := by
  have hW : T.Warmed39 T'.vm := hS.1
  obtain ⟨q1, q2⟩ := X.movedW (T₂ := T') X'.here X'.tail (X'.limits.trans X.limits.symm) (X'.bytes.trans X.bytes.symm) hW (hS.2.mono hk) (by
    obtain ⟨b1, b2, b3, b4, b5, b6⟩ := X'.same
    refine ⟨?_, b2, b3, b4, b5, b6⟩
    have e1 := X.same.1
    have e2 : T.setFrames T'.frames = ({ s.setFrames T'.frames with heap := T.heap, slotsUsed := T.slotsUsed } : State).setVm T.vm := by
      have e3 : (T.setVm s.vm).setFrames T'.frames = ({ s.setFrames T.frames with heap := T.heap, slotsUsed := T.slotsUsed } : State).setFrames T'.frames := congrArg (fun u : State => u.setFrames T'.frames) e1
      have e4 : ({ s.setFrames T.frames with heap := T.heap, slotsUsed := T.slotsUsed } : State).setFrames T'.frames = ({ s.setFrames T'.frames with heap := T.heap, slotsUsed := T.slotsUsed } : State) := by
        have := State.setFrames_setFrames s T.frames T'.frames
        show ({ (s.setFrames T.frames).setFrames T'.frames with heap := T.heap, slotsUsed := T.slotsUsed } : State) = _
        rw [this]
      have e5 := congrArg (fun u : State => u.setVm T.vm) (e3.trans e4)
      exact e5
    have b1' : T'.setVm T'.vm = ({ ((({ s with heap := T.heap, slotsUsed := T.slotsUsed } : State).setVm T'.vm).setFrames T'.frames) with heap := T'.heap, slotsUsed := T'.slotsUsed } : State) := b1
    have b2' := congrArg (fun u : State => u.setVm T.vm) b1'
    show T'.setVm T.vm = ({ T.setFrames T'.frames with heap := T'.heap, slotsUsed := T'.slotsUsed } : State)
    rw [e2]
    exact b2')
  exact ⟨q1, q2, hW⟩
/-- a constant's first load: what is pushed is a Latin-1 String with the text's bytes -/
theorem Wlk.ldcNew {index nn : Nat} {text : String} {Ts : List String} {Lt : List (String × Nat × Addr)} {vs : List Value} {z : Int32} (hd : decode code pc = .ok (.ldc index, 2)) (wl : (Cond.stringLink y.cls index text).before a0 Z = true) (wS : ∀ a ∈ Bundle.stringAtoms, a.before a0 Z = true) (hnot : text ∉ Ts) (hh : Jvm.Lit.constHeld Z y.cls index) (hcw : Jvm.Lit.compactW.before a0 Z = true)
    (ht : (∀ c ∈ text.toList, c.toNat < 256) ∧ text.toList.map (fun c => Value.int (Jvm.Lit.byteI c.toNat.toUInt16)) = vs) (hz : ¬ z < 0) (hl : z.toNatClampNeg = vs.length) (hn : 4 * text.toList.length ≤ nn) (hbig : nn ≤ 536870912) (hc : k + 2 ≤ R.cells) (hs : n + (nn + 4) ≤ R.slots) (hp : pc + 2 = pc')
    (H : ∀ (a b : Addr) (kb : ClassId) (h' : Heap), Ext h h' → Exa Z h' a "java/lang/String" → Fld Z h' a "java/lang/String" "coder" "B" (.int 0) → Fld Z h' a "java/lang/String" "value" "[B" (.ref b) → Arv Z h' b kb .byte z vs (.int 0) → Wlk G R Z y code ret true (true, text :: Ts, (y.cls, index, a) :: Lt) Q h' (k + 2) (n + (nn + 4)) pc' Ls (.ref a :: st)) :
    Wlk G R Z y code ret true (true, Ts, Lt) Q h k n pc Ls st := by
  subst hp
  intro hG hsz T L hP
  obtain ⟨vm0, k0, X, eT, hS, hk, hZ, hown, hw, hB, hE, hF⟩ := hP
  have hWT : (G.s.setVm vm0).WarmedH T.vm := X.warmed
  have hBT : Books Z T.vm (true, Ts, Lt) := Books.warm (s := G.s) (hB rfl) hWT
  have hZT : Z.Warmed39 T.vm := State.Warmed39.trans (t := G.s.setVm vm0) hZ hWT.wide
  have hownT : T.vm.findClass y.cls = some G.m.cls := by rw [hWT.alike.findClass]; exact hown
  have Y := Stand.rebase (ck := 2) (cs := nn + 4) X hc hs
  obtain ⟨a, T', h', k1, b, kb, X', e', E', hS', hk', hZ', hown', A1, A2, A3, A4, -, -, I', Lit', s'⟩ := ldcSVL (s := ({ G.s.setVm vm0 with heap := T.heap, slotsUsed := T.slotsUsed } : State).setVm T.vm) (vm0 := T.vm) (g := mkF G.m pc Ls st) Y hG.1 hZT hownT wl wS eT (k0 := 0) ((State.WarmedH.refl (({ G.s.setVm vm0 with heap := T.heap, slotsUsed := T.slotsUsed } : State).setVm T.vm)).since 0) (Nat.zero_le _) (Fr.nil _) (fun b cl q => by show T.heap[b]? = some cl; rw [eT]; exact hE.2 b cl q) (hBT rfl).1 hnot hh hcw ht hz hl rfl (hb hG.2.1 hd) hn hbig (by show 0 + 2 ≤ 2; omega) (by show 0 + (nn + 4) ≤ nn + 4; omega)
  obtain ⟨X2, hS2, hWT'⟩ := Stand.unbase X X' hS' (by rw [e']; exact hk')
  have eL : L ++ [] = L := List.append_nil L
  rw [eL] at X2
  have X3 := X2.mono (cells' := k + 2) (slots' := n + (nn + 4)) (by omega) (by omega)
  have hEh : Ext Z.heap h' := ⟨Nat.le_trans hE.1 E'.1, fun x cl q => E'.2 x cl (hE.2 x cl q)⟩
  have hB' : Books Z T'.vm (true, text :: Ts, (y.cls, index, a) :: Lt) := fun _ => ⟨I', fun x hx => by
    rcases List.mem_cons.mp hx with rfl | hx
    · exact Lit'
    · exact Lit.stays (s := T) ((hBT rfl).2 x hx) hWT'⟩
  obtain ⟨s₂, o, hs2, rr⟩ := H a b kb h' E' A1 A2 A3 A4 hG hsz T' L ⟨T'.vm, T'.heap.size, X3, e', hS.trans hS2 (by rw [e']; exact Nat.le_trans hk E'.1), by rw [e']; exact Nat.le_refl _, hZ', hown', nofun, fun _ => hB', hEh, hF⟩
  exact ⟨s₂, o, s' _ hs2, rr⟩
/-- a load of an entry that is known to be resolved -/
theorem Wlk.ldcOld {index : Nat} {text : String} {Ts : List String} {Lt : List (String × Nat × Addr)} {a : Addr} (hd : decode code pc = .ok (.ldc index, 2)) (wl : (Cond.stringLink y.cls index text).before a0 Z = true) (hin : (y.cls, index, a) ∈ Lt) (hp : pc + 2 = pc')
    (H : Wlk G R Z y code ret true (true, Ts, Lt) Q h k n pc' Ls (.ref a :: st)) : Wlk G R Z y code ret true (true, Ts, Lt) Q h k n pc Ls st := by
  subst hp
  intro hG hsz T L hP
  obtain ⟨s₂, o, hs, r⟩ := H hG hsz T L hP
  obtain ⟨vm0, k0, X, eT, hS, hk, hZ, hown, hw, hB, hE, hF⟩ := hP
  exact ⟨s₂, o, ldcAgain X hG.1 hZ hown wl ((hB rfl rfl).2 _ hin) (g := mkF G.m pc Ls st) rfl (hb hG.2.1 hd) _ hs, r⟩
/-- a load of which nothing is known but that it pushes a reference -/
theorem Wlk.ldcAny {index nn : Nat} {text : String} {J' : JJ} (hJ : J'.1 = false) (hd : decode code pc = .ok (.ldc index, 2)) (wl : (Cond.stringLink y.cls index text).before a0 Z = true) (wS : ∀ a ∈ Bundle.stringAtoms, a.before a0 Z = true) (hn : 4 * text.toList.length ≤ nn) (hbig : nn ≤ 536870912) (hc : k + 2 ≤ R.cells) (hs : n + (nn + 4) ≤ R.slots) (hp : pc + 2 = pc')
    (H : ∀ (a : Addr) (h' : Heap), Ext h h' → Wlk G R Z y code ret true J' Q h' (k + 2) (n + (nn + 4)) pc' Ls (.ref a :: st)) : Wlk G R Z y code ret true J Q h k n pc Ls st := by
  subst hp
  intro hG hsz T L hP
  obtain ⟨vm0, k0, X, eT, hS, hk, hZ, hown, hw, hB, hE, hF⟩ := hP
  obtain ⟨a, T', h', k1, X', e', E', hS', hk', hZ', hown', s'⟩ := ldcS X hG.1 hZ hown wl wS eT hS hk (g := mkF G.m pc Ls st) rfl (hb hG.2.1 hd) hn hbig hc hs
  have hEh : Ext Z.heap h' := ⟨Nat.le_trans hE.1 E'.1, fun x cl q => E'.2 x cl (hE.2 x cl q)⟩
  obtain ⟨s₂, o, hs2, rr⟩ := H a h' E' hG hsz T' L ⟨T'.vm, k1, X', e', hS', hk', hZ', hown', nofun, fun _ q => (by rw [hJ] at q; cases q), hEh, hF⟩
  exact ⟨s₂, o, s' _ hs2, rr⟩
end Walk
end Jvm.Own
/- laws to paste: Road.backV (cut by pick.py; bodies as the Statement names them) -/
namespace Jvm.Pilot.@@N@@
namespace StrChars
open Jvm Sem ClassFile Op Lib Jvm.Stand Jvm.Free.XT Jvm.Free.ALB Jvm.Free.JM Jvm.Free
open Jvm.Lib.Cold (StaticIs)
/-- a char array whose places are chars -/
def Ch (a : Addr) (A : Cell) (U : State) : Prop := Arr .char a A U ∧ Typed .char A
theorem Ch.mv {a : Addr} {A : Cell} {U U' : State} (h : Ch a A U) (hal : U.vm.Alike U'.vm) (hh : U'.heap = U.heap) : Ch a A U' := ⟨h.1.mv hal hh, h.2⟩
theorem Ch.keep {a : Addr} {A : Cell} {U U' : State} (h : Ch a A U) (hal : U.vm.Alike U'.vm) (hk : U'.heap[a]? = some A) : Ch a A U' := ⟨h.1.keep hal hk, h.2⟩
/-- what place i of a char[]'s cell holds -/
def cv (A : Cell) (i : Nat) : Int32 := match A.slots[i]? with | some (.int x) => x | _ => 0
theorem Ch.get {a : Addr} {A : Cell} {U : State} (h : Ch a A U) {i : Nat} (hi : i < A.slots.size) : A.slots[i]? = some (.int (cv A i)) := by
  have e := Array.getElem?_eq_getElem hi
  have f := h.2 i _ e
  unfold cv; rw [e]
  generalize A.slots[i] = v at f
  cases v <;> simp [fits] at f ⊢
/-- the byte that i2b leaves of a char -/
def lo8 (x : Int32) : Int32 := x.toInt8.toInt32
theorem fits_lo8 (y : Int32) : fits .byte (.int (lo8 y)) = true := by
  have h1 := y.toInt8.le_toInt
  have h2 := y.toInt8.toInt_lt
  simp only [lo8, fits, Bool.and_eq_true, decide_eq_true_eq, Int32.le_iff_toInt_le, Int8.toInt_toInt32, show (-128 : Int32).toInt = -128 from by decide, show (127 : Int32).toInt = 127 from by decide]
  omega
/-- A' is A but that each place j of lo .. hi - 1 holds f j -/
def Laid (A A' : Cell) (lo hi : Nat) (f : Nat → Value) : Prop := A'.cls = A.cls ∧ A'.vm = A.vm ∧ A'.slots.size = A.slots.size ∧ ∀ i, A'.slots[i]? = if lo ≤ i ∧ i < hi then some (f i) else A.slots[i]?
theorem Laid.zero (A : Cell) (lo : Nat) (f : Nat → Value) : Laid A A lo (lo + 0) f := ⟨rfl, rfl, rfl, fun i => by rw [if_neg (by omega)]⟩
theorem Laid.step {A Ak : Cell} {lo k : Nat} {f : Nat → Value} {v : Value} (h : Laid A Ak lo k f) (hlo : lo ≤ k) (hk : k < Ak.slots.size) (hv : v = f k) : Laid A (Ak.setSlot k v) lo (k + 1) f := by
  refine ⟨h.1, h.2.1, by simpa [Cell.setSlot] using h.2.2.1, fun i => ?_⟩
  by_cases e : k = i
  · subst e; rw [Cell.slots_setSlot_self v hk, if_pos (by omega), hv]
  · rw [Cell.slots_setSlot_ne v e, h.2.2.2 i]
    by_cases q : lo ≤ i ∧ i < k
    · rw [if_pos q, if_pos (by omega)]
    · rw [if_neg q, if_neg (by omega)]
def U16 : String := "java/lang/StringUTF16"
namespace Cmp5
def yN : MethodName := ⟨"java/lang/StringUTF16", "compress", "([CI[BII)I"⟩
abbrev yB : ByteArray := jdk_52_method_21_code
theorem d0 : decode yB 0 = .ok (.iconst 0, 1) := by decide +kernel
theorem d1 : decode yB 1 = .ok (.istore 5, 2) := by decide +kernel
theorem d3 : decode yB 3 = .ok (.iload 5, 2) := by decide +kernel
theorem d5 : decode yB 5 = .ok (.iload 4, 2) := by decide +kernel
theorem d7 : decode yB 7 = .ok (.if_icmp (.ge) 37, 3) := by decide +kernel
theorem d10 : decode yB 10 = .ok (.aload_n 0, 1) := by decide +kernel
theorem d11 : decode yB 11 = .ok (.iload_n 1, 1) := by decide +kernel
theorem d12 : decode yB 12 = .ok (.caload, 1) := by decide +kernel
theorem d13 : decode yB 13 = .ok (.istore 6, 2) := by decide +kernel
theorem d15 : decode yB 15 = .ok (.iload 6, 2) := by decide +kernel
theorem d17 : decode yB 17 = .ok (.sipush 255, 3) := by decide +kernel
theorem d20 : decode yB 20 = .ok (.if_icmp (.le) 6, 3) := by decide +kernel
theorem d26 : decode yB 26 = .ok (.aload_n 2, 1) := by decide +kernel
theorem d27 : decode yB 27 = .ok (.iload_n 3, 1) := by decide +kernel
theorem d28 : decode yB 28 = .ok (.iload 6, 2) := by decide +kernel
theorem d30 : decode yB 30 = .ok (.i2b, 1) := by decide +kernel
theorem d31 : decode yB 31 = .ok (.bastore, 1) := by decide +kernel
theorem d32 : decode yB 32 = .ok (.iinc 1 1, 3) := by decide +kernel
theorem d35 : decode yB 35 = .ok (.iinc 3 1, 3) := by decide +kernel
theorem d38 : decode yB 38 = .ok (.iinc 5 1, 3) := by decide +kernel
theorem d41 : decode yB 41 = .ok (.goto (-38), 3) := by decide +kernel
theorem d44 : decode yB 44 = .ok (.iload 4, 2) := by decide +kernel
theorem d46 : decode yB 46 = .ok (.ireturn, 1) := by decide +kernel
def site : List Cond := []
def tab : Cond := tabOf yN yB 7 (some .int) site
def P (b : Addr) (A : Cell) (d : Addr) (B : Cell) (o q len : Nat) (args : Array Value) (s : State) : Prop := args = #[.ref b, .int (Int32.ofNat o), .ref d, .int (Int32.ofNat q), .int (Int32.ofNat len)] ∧ Ch b A s ∧ Arr .byte d B s ∧ b ≠ d ∧ o + len ≤ A.slots.size ∧ q + len ≤ B.slots.size ∧ ∀ i, i < len → ¬ 255 < cv A (o + i)
def E (b : Addr) (A : Cell) (d : Addr) (B : Cell) (o q len : Nat) (r : Option Value) (s u : State) : Prop := r = some (.int (Int32.ofNat len)) ∧ ∃ B', Put d B' s u ∧ Laid B B' q (q + len) (fun j => Value.int (lo8 (cv A (o + (j - q)))))
/-- no char of the range above 255: len; the places written hold each char's low byte -/
theorem law (l : Launch) (b : Addr) (A : Cell) (d : Addr) (B : Cell) (o q len : Nat) : Law l yN 5 5 0 0 yB 7 (some .int) site (P b A d B o q len) (E b A d B o q len) (copyLocs d q len) 0 0 := by
  refine Law.of_walk (plainFor_of_name (by decide +kernel)) (by decide +kernel) (by decide +kernel) (by decide) (fun _ _ h => by rw [h.1]; rfl) (fun _ U U' hal hh h => ⟨h.1, h.2.1.mv hal hh, h.2.2.1.mv hal hh, h.2.2.2⟩) (fun r U U' V V' h1 hal h2 h => ⟨h.1, h.2.elim fun B' q => ⟨B', q.1.mv h1 h2, q.2⟩⟩) ?_
  intro p e s m args below meth c s₁ X0 hexec hbytes hml hret hlk hnm hown hh0 W hP
  obtain ⟨rfl, hA, hB, hne, l1, l2, hp⟩ := hP
  have c1 : Steps p.tables e below (s₁.setTop (entryFrame m #[.ref b, .int (Int32.ofNat o), .ref d, .int (Int32.ofNat q), .int (Int32.ofNat len)] 7)) (s₁.setTop (mkF m 0 #[.val (.ref b), .val (.int (Int32.ofNat o)), .val (.ref d), .val (.int (Int32.ofNat q)), .val (.int (Int32.ofNat len)), .unset, .unset] [])) := entry rfl
  have hA0 := hA.1.mv X0.warmed.alike hh0
  have hB0 := hB.mv X0.warmed.alike hh0
  have a31 := hA.1.2.2.2
  have c2 : Steps p.tables e below (s₁.setTop (entryFrame m #[.ref b, .int (Int32.ofNat o), .ref d, .int (Int32.ofNat q), .int (Int32.ofNat len)] 7)) (s₁.setTop (mkF m 3 #[.val (.ref b), .val (.int (Int32.ofNat o)), .val (.ref d), .val (.int (Int32.ofNat q)), .val (.int (Int32.ofNat len)), .val (.int 0), .unset] [])) := c1.trans (by
    refine iconstV X0.here hexec rfl 0 (hb hbytes d0) (by decide) ?_
    refine XS.istore X0.here hexec rfl (hb hbytes d1) rfl rfl ?_
    exact Steps.refl _)
  have loop : ∀ (r i : Nat), i + r = len → ∀ (z : Slot), (z = .unset ∨ ∃ w, z = .val w ∧ w.category = 1) → ∀ (Tl : State) (Bk : Cell), Stand p l e { frames := 0, locals := 0, cells := 0, slots := 0 } s m #[.ref b, .int (Int32.ofNat o), .ref d, .int (Int32.ofNat q), .int (Int32.ofNat len)] below meth c Tl ([] ++ copyLocs d q i) 0 0 → Put d Bk s₁ Tl → Laid B Bk q (q + i) (fun j => Value.int (lo8 (cv A (o + (j - q))))) →
      Steps p.tables e below (s₁.setTop (entryFrame m #[.ref b, .int (Int32.ofNat o), .ref d, .int (Int32.ofNat q), .int (Int32.ofNat len)] 7)) (Tl.setTop (mkF m 3 #[.val (.ref b), .val (.int (Int32.ofNat (o + i))), .val (.ref d), .val (.int (Int32.ofNat (q + i))), .val (.int (Int32.ofNat len)), .val (.int (Int32.ofNat i)), z] [])) → ∃ (T' : State) (B' : Cell) (z' : Slot), Stand p l e { frames := 0, locals := 0, cells := 0, slots := 0 } s m #[.ref b, .int (Int32.ofNat o), .ref d, .int (Int32.ofNat q), .int (Int32.ofNat len)] below meth c T' ([] ++ copyLocs d q len) 0 0 ∧ Put d B' s₁ T' ∧ Laid B B' q (q + len) (fun j => Value.int (lo8 (cv A (o + (j - q))))) ∧
      Steps p.tables e below (s₁.setTop (entryFrame m #[.ref b, .int (Int32.ofNat o), .ref d, .int (Int32.ofNat q), .int (Int32.ofNat len)] 7)) (T'.setTop (mkF m 3 #[.val (.ref b), .val (.int (Int32.ofNat (o + len))), .val (.ref d), .val (.int (Int32.ofNat (q + len))), .val (.int (Int32.ofNat len)), .val (.int (Int32.ofNat len)), z'] [])) := by
    intro r
    induction r with
    | zero =>
      intro i hi z hz Tl Bk Xl pl fl cl
      have hil : i = len := by omega
      rw [hil] at Xl fl cl
      exact ⟨Tl, Bk, z, Xl, pl, fl, cl⟩
    | succ r ih =>
      intro i hi z hz Tl Bk Xl pl fl cl
      have all := X0.warmed.alike.symm.trans Xl.warmed.alike
      have hAl := hA0.keep all (pl.other hne hA0.1)
      have hBk := hB0.like all pl.1 fl.1 fl.2.1 fl.2.2.1
      have hlt : q + i < Bk.slots.size := by rw [fl.2.2.1]; omega
      have c3 : Steps p.tables e below (s₁.setTop (entryFrame m #[.ref b, .int (Int32.ofNat o), .ref d, .int (Int32.ofNat q), .int (Int32.ofNat len)] 7)) (Tl.setTop (mkF m 12 #[.val (.ref b), .val (.int (Int32.ofNat (o + i))), .val (.ref d), .val (.int (Int32.ofNat (q + i))), .val (.int (Int32.ofNat len)), .val (.int (Int32.ofNat i)), z] [.int (Int32.ofNat (o + i)), .ref b])) := cl.trans (by
        refine XS.iload Xl.here hexec rfl (hb hbytes d3) rfl ?_
        refine XS.iload Xl.here hexec rfl (hb hbytes d5) rfl ?_
        refine XS.icmpNo Xl.here hexec rfl (hb hbytes d7) rfl (ii_ge_f (lt32 (by omega) (by omega))) ?_
        refine XS.aloadN Xl.here hexec rfl (hb hbytes d10) rfl rfl ?_
        refine XS.iloadN Xl.here hexec rfl (hb hbytes d11) rfl ?_
        exact Steps.refl _)
      have c4 : Steps p.tables e below (s₁.setTop (entryFrame m #[.ref b, .int (Int32.ofNat o), .ref d, .int (Int32.ofNat q), .int (Int32.ofNat len)] 7)) (Tl.setTop (mkF m 13 #[.val (.ref b), .val (.int (Int32.ofNat (o + i))), .val (.ref d), .val (.int (Int32.ofNat (q + i))), .val (.int (Int32.ofNat len)), .val (.int (Int32.ofNat i)), z] [.int (cv A (o + i))])) := c3.trans (by
        refine Xl.aget hexec hAl rfl (hA.get (i := o + i) (by omega)) rfl rfl (hb hbytes d12) ?_
        exact Steps.refl _)
      have c5 : Steps p.tables e below (s₁.setTop (entryFrame m #[.ref b, .int (Int32.ofNat o), .ref d, .int (Int32.ofNat q), .int (Int32.ofNat len)] 7)) (Tl.setTop (mkF m 15 #[.val (.ref b), .val (.int (Int32.ofNat (o + i))), .val (.ref d), .val (.int (Int32.ofNat (q + i))), .val (.int (Int32.ofNat len)), .val (.int (Int32.ofNat i)), .val (.int (cv A (o + i)))] [])) := c4.trans (by
        refine XS.istoreS Xl.here hexec rfl (hb hbytes d13) rfl rfl hz ?_
        exact Steps.refl _)
      have c6 : Steps p.tables e below (s₁.setTop (entryFrame m #[.ref b, .int (Int32.ofNat o), .ref d, .int (Int32.ofNat q), .int (Int32.ofNat len)] 7)) (Tl.setTop (mkF m 31 #[.val (.ref b), .val (.int (Int32.ofNat (o + i))), .val (.ref d), .val (.int (Int32.ofNat (q + i))), .val (.int (Int32.ofNat len)), .val (.int (Int32.ofNat i)), .val (.int (cv A (o + i)))] [.int (lo8 (cv A (o + i))), .int (Int32.ofNat (q + i)), .ref d])) := c5.trans (by
        refine XS.iload Xl.here hexec rfl (hb hbytes d15) rfl ?_
        refine sipushV Xl.here hexec rfl 255 (hb hbytes d17) (by decide) ?_
        refine XS.icmpYes Xl.here hexec rfl (pc0 := 20) rfl (hb hbytes d20) rfl (ii_le_t (hp i (by omega))) (by decide) rfl ?_
        refine XS.aloadN Xl.here hexec rfl (hb hbytes d26) rfl rfl ?_
        refine XS.iloadN Xl.here hexec rfl (hb hbytes d27) rfl ?_
        refine XS.iload Xl.here hexec rfl (hb hbytes d28) rfl ?_
        refine i2b Xl.here hexec rfl (hb hbytes d30) rfl ?_
        exact Steps.refl _)
      obtain ⟨T7, X7, p7, st7⟩ := Xl.aput hexec hBk rfl hlt rfl (fits_lo8 (cv A (o + i))) (g := (mkF m 31 #[.val (.ref b), .val (.int (Int32.ofNat (o + i))), .val (.ref d), .val (.int (Int32.ofNat (q + i))), .val (.int (Int32.ofNat len)), .val (.int (Int32.ofNat i)), .val (.int (cv A (o + i)))] [.int (lo8 (cv A (o + i))), .int (Int32.ofNat (q + i)), .ref d])) rfl (rest := []) rfl (hb hbytes d31)
      have c8 : Steps p.tables e below (s₁.setTop (entryFrame m #[.ref b, .int (Int32.ofNat o), .ref d, .int (Int32.ofNat q), .int (Int32.ofNat len)] 7)) (T7.setTop (mkF m 32 #[.val (.ref b), .val (.int (Int32.ofNat (o + i))), .val (.ref d), .val (.int (Int32.ofNat (q + i))), .val (.int (Int32.ofNat len)), .val (.int (Int32.ofNat i)), .val (.int (cv A (o + i)))] [])) := c6.trans (st7 _ (Steps.refl _))
      have c9 : Steps p.tables e below (s₁.setTop (entryFrame m #[.ref b, .int (Int32.ofNat o), .ref d, .int (Int32.ofNat q), .int (Int32.ofNat len)] 7)) (T7.setTop (mkF m 3 #[.val (.ref b), .val (.int (Int32.ofNat (o + i) + 1)), .val (.ref d), .val (.int (Int32.ofNat (q + i) + 1)), .val (.int (Int32.ofNat len)), .val (.int (Int32.ofNat i + 1)), .val (.int (cv A (o + i)))] [])) := c8.trans (by
        refine iincV X7.here hexec rfl 1 (hb hbytes d32) (by decide) rfl rfl ?_
        refine iincV X7.here hexec rfl 1 (hb hbytes d35) (by decide) rfl rfl ?_
        refine iincV X7.here hexec rfl 1 (hb hbytes d38) (by decide) rfl rfl ?_
        refine XS.goto X7.here hexec rfl (pc0 := 41) rfl (hb hbytes d41) (by decide) rfl ?_
        exact Steps.refl _)
      have c10 : Steps p.tables e below (s₁.setTop (entryFrame m #[.ref b, .int (Int32.ofNat o), .ref d, .int (Int32.ofNat q), .int (Int32.ofNat len)] 7)) (T7.setTop (mkF m 3 #[.val (.ref b), .val (.int (Int32.ofNat (o + (i + 1)))), .val (.ref d), .val (.int (Int32.ofNat (q + (i + 1)))), .val (.int (Int32.ofNat len)), .val (.int (Int32.ofNat (i + 1))), .val (.int (cv A (o + i)))] [])) := by
        have := c9
        rw [succ32, succ32, succ32] at this
        exact this
      exact ih (i + 1) (by omega) _ (Or.inr ⟨_, rfl, rfl⟩) T7 _ (by rw [copyLocs_step, ← List.append_assoc]; exact X7) (pl.trans p7) (fl.step (by omega) hlt (by simp)) c10
  obtain ⟨T9, B9, z9, X9, p9, f9, g9⟩ := loop len 0 (by omega) .unset (Or.inl rfl) s₁ B (by simpa [copyLocs] using X0) ⟨hB0.1, fun _ _ => rfl, rfl⟩ (Laid.zero _ _ _) c2
  have c11 : Steps p.tables e below (s₁.setTop (entryFrame m #[.ref b, .int (Int32.ofNat o), .ref d, .int (Int32.ofNat q), .int (Int32.ofNat len)] 7)) (T9.setTop (mkF m 46 #[.val (.ref b), .val (.int (Int32.ofNat (o + len))), .val (.ref d), .val (.int (Int32.ofNat (q + len))), .val (.int (Int32.ofNat len)), .val (.int (Int32.ofNat len)), z9] [.int (Int32.ofNat len)])) := g9.trans (by
    refine XS.iload X9.here hexec rfl (hb hbytes d3) rfl ?_
    refine XS.iload X9.here hexec rfl (hb hbytes d5) rfl ?_
    refine XS.icmpYes X9.here hexec rfl (pc0 := 7) rfl (hb hbytes d7) rfl (ii_ge_t (nlt32 (by omega) (Nat.le_refl _))) (by decide) rfl ?_
    refine XS.iload X9.here hexec rfl (hb hbytes d44) rfl ?_
    exact Steps.refl _)
  exact ⟨T9, some (.int (Int32.ofNat len)), _, _, _, X9, by simp, rfl, rfl, (fun h => by cases h), ⟨rfl, B9, p9.from hh0, f9⟩, fun fs hl => c11.trans (X9.ireturnOut hexec hret rfl (Or.inl rfl) (hb hbytes d46) hl)⟩
end Cmp5
namespace Cmp3
def yN : MethodName := ⟨"java/lang/StringUTF16", "compress", "([CII)[B"⟩
abbrev yB : ByteArray := jdk_52_method_16_code
theorem d0 : decode yB 0 = .ok (.iload_n 2, 1) := by decide +kernel
theorem d1 : decode yB 1 = .ok (.newarray .byte, 2) := by decide +kernel
theorem d3 : decode yB 3 = .ok (.astore_n 3, 1) := by decide +kernel
theorem d4 : decode yB 4 = .ok (.aload_n 0, 1) := by decide +kernel
theorem d5 : decode yB 5 = .ok (.iload_n 1, 1) := by decide +kernel
theorem d6 : decode yB 6 = .ok (.aload_n 3, 1) := by decide +kernel
theorem d7 : decode yB 7 = .ok (.iconst 0, 1) := by decide +kernel
theorem d8 : decode yB 8 = .ok (.iload_n 2, 1) := by decide +kernel
theorem d9 : decode yB 9 = .ok (.invokestatic 115, 3) := by decide +kernel
theorem d12 : decode yB 12 = .ok (.istore 4, 2) := by decide +kernel
theorem d14 : decode yB 14 = .ok (.iload 4, 2) := by decide +kernel
theorem d16 : decode yB 16 = .ok (.iload_n 2, 1) := by decide +kernel
theorem d17 : decode yB 17 = .ok (.if_icmp (.eq) 40, 3) := by decide +kernel
theorem d57 : decode yB 57 = .ok (.aload_n 3, 1) := by decide +kernel
theorem d58 : decode yB 58 = .ok (.areturn, 1) := by decide +kernel
def site : List Cond := [.arrayClass .byte, Cmp5.tab] ++ staticW U16 115 Cmp5.yN
def tab : Cond := tabOf yN yB 6 (some (.array .byte)) site
def P (b : Addr) (A : Cell) (o len : Nat) (args : Array Value) (s : State) : Prop := args = #[.ref b, .int (Int32.ofNat o), .int (Int32.ofNat len)] ∧ Ch b A s ∧ o + len ≤ A.slots.size ∧ len ≤ 536870912 ∧ ∀ i, i < len → ¬ 255 < cv A (o + i)
def E (b : Addr) (A : Cell) (o len : Nat) (r : Option Value) (s u : State) : Prop := NewArr .byte "[B" len (fun j => .int (lo8 (cv A (o + j)))) r s u ∧ u.heap.size = s.heap.size + 1
/-- no char of the range above 255: a new byte[] of their low bytes -/
theorem law (l : Launch) (b : Addr) (A : Cell) (o len : Nat) : Law l yN 3 3 1 18 yB 6 (some (.array .byte)) site (P b A o len) (E b A o len) [] 1 len := by
  refine Law.of_walk (plainFor_of_name (by decide +kernel)) (by decide +kernel) (by decide +kernel) (by decide) (fun _ _ h => by rw [h.1]; rfl) (fun _ U U' hal hh h => ⟨h.1, h.2.1.mv hal hh, h.2.2⟩) (fun r U U' V V' h1 hal h2 h => ⟨NewArr.mv r U U' V V' h1 hal h2 h.1, by rw [h1, h2]; exact h.2⟩) ?_
  intro p e s m args below meth c s₁ X0 hexec hbytes hml hret hlk hnm hown hh0 W hP
  obtain ⟨rfl, hA, l1, l2, hp⟩ := hP
  have a31 := hA.1.2.2.2
  have c1 : Steps p.tables e below (s₁.setTop (entryFrame m #[.ref b, .int (Int32.ofNat o), .int (Int32.ofNat len)] 6)) (s₁.setTop (mkF m 0 #[.val (.ref b), .val (.int (Int32.ofNat o)), .val (.int (Int32.ofNat len)), .unset, .unset, .unset] [])) := entry rfl
  have c2 : Steps p.tables e below (s₁.setTop (entryFrame m #[.ref b, .int (Int32.ofNat o), .int (Int32.ofNat len)] 6)) (s₁.setTop (mkF m 1 #[.val (.ref b), .val (.int (Int32.ofNat o)), .val (.int (Int32.ofNat len)), .unset, .unset, .unset] [.int (Int32.ofNat len)])) := c1.trans (by
    refine XS.iloadN X0.here hexec rfl (hb hbytes d0) rfl ?_
    exact Steps.refl _)
  obtain ⟨T3, B3, X3, ba3, bs3, bv3, bh3, bf3, st3⟩ := X0.anew hexec (atype := .byte) (wk W (.arrayClass .byte)) rfl (by show len * 1 ≤ _; omega) (by omega) (g := (mkF m 1 #[.val (.ref b), .val (.int (Int32.ofNat o)), .val (.int (Int32.ofNat len)), .unset, .unset, .unset] [.int (Int32.ofNat len)])) rfl (hb hbytes d1) (rest := []) rfl (Nat.le_refl _) (by show 0 + len ≤ len; omega)
  rw [hh0] at ba3 st3
  have kp3 : XT.Kept s T3 := (XT.Kept.of_eq hh0).push bh3
  have hA3 := hA.keep X3.warmed.alike (kp3 _ _ hA.1.1)
  have hne : b ≠ s.heap.size := hA.1.ne
  have c4 : Steps p.tables e below (s₁.setTop (entryFrame m #[.ref b, .int (Int32.ofNat o), .int (Int32.ofNat len)] 6)) (T3.setTop (mkF m 3 #[.val (.ref b), .val (.int (Int32.ofNat o)), .val (.int (Int32.ofNat len)), .unset, .unset, .unset] [.ref s.heap.size])) := c2.trans (st3 _ (Steps.refl _))
  have c5 : Steps p.tables e below (s₁.setTop (entryFrame m #[.ref b, .int (Int32.ofNat o), .int (Int32.ofNat len)] 6)) (T3.setTop (mkF m 9 #[.val (.ref b), .val (.int (Int32.ofNat o)), .val (.int (Int32.ofNat len)), .val (.ref s.heap.size), .unset, .unset] [.int (Int32.ofNat len), .int 0, .ref s.heap.size, .int (Int32.ofNat o), .ref b])) := c4.trans (by
    refine XS.astoreN X3.here hexec rfl (hb hbytes d3) rfl rfl rfl ?_
    refine XS.aloadN X3.here hexec rfl (hb hbytes d4) rfl rfl ?_
    refine XS.iloadN X3.here hexec rfl (hb hbytes d5) rfl ?_
    refine XS.aloadN X3.here hexec rfl (hb hbytes d6) rfl rfl ?_
    refine iconstV X3.here hexec rfl 0 (hb hbytes d7) (by decide) ?_
    refine XS.iloadN X3.here hexec rfl (hb hbytes d8) rfl ?_
    exact Steps.refl _)
  obtain ⟨v6, T6, X6, E6, g6⟩ := X3.callS hexec (Cmp5.law l b A s.heap.size B3 o 0 len) hown (wks W (staticW U16 115 Cmp5.yN)) (wk W Cmp5.tab) (W := 0) (Nat.le_of_ble_eq_true rfl) (Nat.le_of_ble_eq_true rfl) (Nat.le_refl _) (by show 0 + len + 0 ≤ len; omega) (g := (mkF m 9 #[.val (.ref b), .val (.int (Int32.ofNat o)), .val (.int (Int32.ofNat len)), .val (.ref s.heap.size), .unset, .unset] [.int (Int32.ofNat len), .int (Int32.ofNat 0), .ref s.heap.size, .int (Int32.ofNat o), .ref b])) rfl (by rw [hml]; rfl) c5 (argsL := [.ref b, .int (Int32.ofNat o), .ref s.heap.size, .int (Int32.ofNat 0), .int (Int32.ofNat len)]) (rest := []) rfl rfl (by show 2 * 0 + 0 ≤ _; decide) (hb hbytes d9) (⟨rfl, hA3, ba3, hne, l1, by rw [bs3]; simp, hp⟩)
  obtain ⟨rfl, B6, p6, f6⟩ := E6
  have c7 : Steps p.tables e below (s₁.setTop (entryFrame m #[.ref b, .int (Int32.ofNat o), .int (Int32.ofNat len)] 6)) (T6.setTop (mkF m 12 #[.val (.ref b), .val (.int (Int32.ofNat o)), .val (.int (Int32.ofNat len)), .val (.ref s.heap.size), .unset, .unset] [.int (Int32.ofNat len)])) := g6
  have c8 : Steps p.tables e below (s₁.setTop (entryFrame m #[.ref b, .int (Int32.ofNat o), .int (Int32.ofNat len)] 6)) (T6.setTop (mkF m 58 #[.val (.ref b), .val (.int (Int32.ofNat o)), .val (.int (Int32.ofNat len)), .val (.ref s.heap.size), .val (.int (Int32.ofNat len)), .unset] [.ref s.heap.size])) := c7.trans (by
    refine XS.istore X6.here hexec rfl (hb hbytes d12) rfl rfl ?_
    refine XS.iload X6.here hexec rfl (hb hbytes d14) rfl ?_
    refine XS.iloadN X6.here hexec rfl (hb hbytes d16) rfl ?_
    refine XS.icmpYes X6.here hexec rfl (pc0 := 17) rfl (hb hbytes d17) rfl (ii_eq_t rfl) (by decide) rfl ?_
    refine XS.aloadN X6.here hexec rfl (hb hbytes d57) rfl rfl ?_
    exact Steps.refl _)
  have X8 := X6.wide (L' := []) (cells' := 1) (slots' := len) (fun x hx hlt => by
    simp only [List.nil_append, copyLocs, List.mem_map, List.mem_range] at hx
    obtain ⟨i, -, rfl⟩ := hx
    exact absurd hlt (Nat.lt_irrefl _)) (Nat.le_refl _) (by omega)
  exact ⟨T6, some (.ref s.heap.size), _, _, _, X8, rfl, rfl, rfl, (fun h => by cases h), ⟨⟨rfl, B6, ba3.like (X3.warmed.alike.symm.trans X6.warmed.alike) p6.1 f6.1 f6.2.1 f6.2.2.1, f6.2.1.trans bv3, by rw [X6.warmed.alike.findClass, f6.1]; exact bf3, by rw [f6.2.2.1, bs3]; simp, fun j hj => by rw [f6.2.2.2 j, if_pos (by omega)]; rfl, kp3.put p6 (Nat.le_refl _)⟩, by rw [p6.2.2, bh3, hh0]; simp⟩, fun fs hl => c8.trans (X8.areturnOut hexec rfl hret rfl (hb hbytes d58) hl)⟩
end Cmp3
namespace CodL
def yN : MethodName := ⟨"java/lang/StringUTF16", "coderFromArrayLen", "([BI)B"⟩
abbrev yB : ByteArray := jdk_52_method_15_code
theorem d0 : decode yB 0 = .ok (.iload_n 1, 1) := by decide +kernel
theorem d1 : decode yB 1 = .ok (.aload_n 0, 1) := by decide +kernel
theorem d2 : decode yB 2 = .ok (.arraylength, 1) := by decide +kernel
theorem d3 : decode yB 3 = .ok (.isub, 1) := by decide +kernel
theorem d4 : decode yB 4 = .ok (.bipush 31, 2) := by decide +kernel
theorem d6 : decode yB 6 = .ok (.iushr, 1) := by decide +kernel
theorem d7 : decode yB 7 = .ok (.i2b, 1) := by decide +kernel
theorem d8 : decode yB 8 = .ok (.ireturn, 1) := by decide +kernel
def site : List Cond := []
def tab : Cond := tabOf yN yB 2 (some .byte) site
def P (d : Addr) (B : Cell) (args : Array Value) (s : State) : Prop := args = #[.ref d, .int (Int32.ofNat B.slots.size)] ∧ Arr .byte d B s
def E (r : Option Value) (s u : State) : Prop := XT.PureE (some (.int 0)) r s u
/-- an array as long as the number of chars: LATIN1 -/
theorem law (l : Launch) (d : Addr) (B : Cell) : Law l yN 2 2 0 0 yB 2 (some .byte) site (P d B) E [] 0 0 := by
  refine Law.of_walk (plainFor_of_name (by decide +kernel)) (by decide +kernel) (by decide +kernel) (by decide) (fun _ _ h => by rw [h.1]; rfl) (fun _ U U' hal hh h => ⟨h.1, h.2.mv hal hh⟩) (fun r U U' V V' h1 hal h2 h => XT.PureE.mv r U U' V V' h1 hal h2 h) ?_
  intro p e s m args below meth c s₁ X0 hexec hbytes hml hret hlk hnm hown hh0 W hP
  obtain ⟨rfl, hB⟩ := hP
  have hB0 := hB.mv X0.warmed.alike hh0
  have c1 : Steps p.tables e below (s₁.setTop (entryFrame m #[.ref d, .int (Int32.ofNat B.slots.size)] 2)) (s₁.setTop (mkF m 0 #[.val (.ref d), .val (.int (Int32.ofNat B.slots.size))] [])) := entry rfl
  have c2 : Steps p.tables e below (s₁.setTop (entryFrame m #[.ref d, .int (Int32.ofNat B.slots.size)] 2)) (s₁.setTop (mkF m 2 #[.val (.ref d), .val (.int (Int32.ofNat B.slots.size))] [.ref d, .int (Int32.ofNat B.slots.size)])) := c1.trans (by
    refine XS.iloadN X0.here hexec rfl (hb hbytes d0) rfl ?_
    refine XS.aloadN X0.here hexec rfl (hb hbytes d1) rfl rfl ?_
    exact Steps.refl _)
  have c3 : Steps p.tables e below (s₁.setTop (entryFrame m #[.ref d, .int (Int32.ofNat B.slots.size)] 2)) (s₁.setTop (mkF m 8 #[.val (.ref d), .val (.int (Int32.ofNat B.slots.size))] [.int (lo8 (ushr (Int32.ofNat B.slots.size - Int32.ofNat B.slots.size) 31))])) := c2.trans (by
    refine X0.alen hexec hB0 rfl rfl (hb hbytes d2) ?_
    refine XS.isub X0.here hexec rfl (hb hbytes d3) rfl ?_
    refine bipushV X0.here hexec rfl 31 (hb hbytes d4) (by decide) ?_
    refine iushr X0.here hexec rfl (hb hbytes d6) rfl ?_
    refine i2b X0.here hexec rfl (hb hbytes d7) rfl ?_
    exact Steps.refl _)
  have e0 : lo8 (ushr (Int32.ofNat B.slots.size - Int32.ofNat B.slots.size) 31) = 0 := by rw [Int32.sub_self]; decide
  rw [e0] at c3
  exact ⟨s₁, some (.int 0), _, _, _, X0, rfl, rfl, rfl, (fun h => by cases h), ⟨rfl, hh0⟩, fun fs hl => c3.trans (X0.ireturnOut hexec hret rfl (Or.inr (Or.inr (Or.inl rfl))) (hb hbytes d8) hl)⟩
end CodL
/-- the String at a is Latin-1 over a new byte[] (the heap's one new cell): the low bytes of the len chars of A from o on; every cell but a is kept -/
def Got (a : Addr) (D : Cell) (fV fC : Field) (A : Cell) (o len : Nat) (r : Option Value) (s u : State) : Prop := r = none ∧ ∃ D' V : Cell, Blank "java/lang/String" a D' u ∧ Same D D' [fV.slot, fC.slot] ∧ D'.slots[fV.slot]? = some (.ref s.heap.size) ∧ D'.slots[fC.slot]? = some (.int 0) ∧ Arr .byte s.heap.size V u ∧ V.vm = .none ∧ u.vm.findClass "[B" = some V.cls ∧ V.slots.size = len ∧ (∀ j, j < len → V.slots[j]? = some (.int (lo8 (cv A (o + j))))) ∧ (∀ (y : Addr) (c : Cell), y ≠ a → s.heap[y]? = some c → u.heap[y]? = some c) ∧ u.heap.size = s.heap.size + 1
theorem Got.mv {a : Addr} {D A : Cell} {fV fC : Field} {o len : Nat} : ∀ r (U U' V V' : State), U'.heap = U.heap → V.vm.Alike V'.vm → V'.heap = V.heap → Got a D fV fC A o len r U V → Got a D fV fC A o len r U' V' :=
  fun r U U' V V' h1 hal h2 ⟨e0, D', X, a1, a2, a3, a4, a5, a6, a7, a8, a9, a10, a11⟩ => ⟨e0, D', X, a1.mv hal h2, a2, by rw [h1]; exact a3, a4, by rw [h1]; exact a5.mv hal h2, a6, by rw [hal.findClass]; exact a7, a8, a9, by rw [h1, h2]; exact a10, by rw [h1, h2]; exact a11⟩
namespace New4
def yN : MethodName := ⟨"java/lang/String", "<init>", "([CIILjava/lang/Void;)V"⟩
abbrev yB : ByteArray := jdk_42_method_149_code
theorem d0 : decode yB 0 = .ok (.aload_n 0, 1) := by decide +kernel
theorem d1 : decode yB 1 = .ok (.invokespecial 1, 3) := by decide +kernel
theorem d4 : decode yB 4 = .ok (.iload_n 3, 1) := by decide +kernel
theorem d5 : decode yB 5 = .ok (.ifCond (.ne) 22, 3) := by decide +kernel
theorem d27 : decode yB 27 = .ok (.getstatic 38, 3) := by decide +kernel
theorem d30 : decode yB 30 = .ok (.ifCond (.eq) 28, 3) := by decide +kernel
theorem d33 : decode yB 33 = .ok (.aload_n 1, 1) := by decide +kernel
theorem d34 : decode yB 34 = .ok (.iload_n 2, 1) := by decide +kernel
theorem d35 : decode yB 35 = .ok (.iload_n 3, 1) := by decide +kernel
theorem d36 : decode yB 36 = .ok (.invokestatic 177, 3) := by decide +kernel
theorem d39 : decode yB 39 = .ok (.astore 5, 2) := by decide +kernel
theorem d41 : decode yB 41 = .ok (.aload_n 0, 1) := by decide +kernel
theorem d42 : decode yB 42 = .ok (.aload 5, 2) := by decide +kernel
theorem d44 : decode yB 44 = .ok (.iload_n 3, 1) := by decide +kernel
theorem d45 : decode yB 45 = .ok (.invokestatic 47, 3) := by decide +kernel
theorem d48 : decode yB 48 = .ok (.putfield 15, 3) := by decide +kernel
theorem d51 : decode yB 51 = .ok (.aload_n 0, 1) := by decide +kernel
theorem d52 : decode yB 52 = .ok (.aload 5, 2) := by decide +kernel
theorem d54 : decode yB 54 = .ok (.putfield 9, 3) := by decide +kernel
theorem d57 : decode yB 57 = .ok (.return_, 1) := by decide +kernel
def site : List Cond := [.fieldLink "java/lang/String" 38 "java/lang/String" "COMPACT_STRINGS" "Z", Cmp3.tab, CodL.tab, .laysFinal "java/lang/String" "java/lang/String" "value" "[B", .fieldLink "java/lang/String" 9 "java/lang/String" "value" "[B", .laysFinal "java/lang/String" "java/lang/String" "coder" "B", .fieldLink "java/lang/String" 15 "java/lang/String" "coder" "B"] ++ objW "java/lang/String" 1 ++ staticW "java/lang/String" 177 Cmp3.yN ++ staticW "java/lang/String" 47 CodL.yN
def tab : Cond := tabOf yN yB 6 none site
def P (a : Addr) (D : Cell) (fV fC : Field) (b : Addr) (A : Cell) (z : Int32) (o len : Nat) (args : Array Value) (s : State) : Prop := args = #[.ref a, .ref b, .int (Int32.ofNat o), .int (Int32.ofNat len), .null] ∧ Blank "java/lang/String" a D s ∧ Found "java/lang/String" "value" "[B" fV s ∧ Found "java/lang/String" "coder" "B" fC s ∧ Ch b A s ∧ StaticIs s "java/lang/String" "COMPACT_STRINGS" "Z" (.int z) ∧ ¬ z = 0 ∧ 0 < len ∧ o + len ≤ A.slots.size ∧ len ≤ 536870912 ∧ ∀ i, i < len → ¬ 255 < cv A (o + i)
def E (a : Addr) (D : Cell) (fV fC : Field) (A : Cell) (o len : Nat) (r : Option Value) (s u : State) : Prop := Got a D fV fC A o len r s u
/-- len > 0, no char of the range above 255: a Latin-1 String of their low bytes -/
theorem law (l : Launch) (a : Addr) (D : Cell) (fV fC : Field) (b : Addr) (A : Cell) (z : Int32) (o len : Nat) : Law l yN 5 4 2 35 yB 6 none site (P a D fV fC b A z o len) (E a D fV fC A o len) [⟨a, fC.slot⟩, ⟨a, fV.slot⟩] 1 len := by
  refine Law.of_walk (plainFor_of_name (by decide +kernel)) (by decide +kernel) (by decide +kernel) (by decide) (fun _ _ h => by rw [h.1]; rfl) (fun _ U U' hal hh h => ⟨h.1, h.2.1.mv hal hh, h.2.2.1.al hal, h.2.2.2.1.al hal, h.2.2.2.2.1.mv hal hh, h.2.2.2.2.2.1.there hal hh, h.2.2.2.2.2.2⟩) (fun r U U' V V' h1 hal h2 h => Got.mv r U U' V V' h1 hal h2 h) ?_
  intro p e s m args below meth c s₁ X0 hexec hbytes hml hret hlk hnm hown hh0 W hP
  obtain ⟨rfl, hB, f1, f2, hA, s1, hz, l0, l1, l2, hp⟩ := hP
  have a31 := hA.1.2.2.2
  have c1 : Steps p.tables e below (s₁.setTop (entryFrame m #[.ref a, .ref b, .int (Int32.ofNat o), .int (Int32.ofNat len), .null] 6)) (s₁.setTop (mkF m 0 #[.val (.ref a), .val (.ref b), .val (.int (Int32.ofNat o)), .val (.int (Int32.ofNat len)), .val .null, .unset] [])) := entry rfl
  have c2 : Steps p.tables e below (s₁.setTop (entryFrame m #[.ref a, .ref b, .int (Int32.ofNat o), .int (Int32.ofNat len), .null] 6)) (s₁.setTop (mkF m 1 #[.val (.ref a), .val (.ref b), .val (.int (Int32.ofNat o)), .val (.int (Int32.ofNat len)), .val .null, .unset] [.ref a])) := c1.trans (by
    refine XS.aloadN X0.here hexec rfl (hb hbytes d0) rfl rfl ?_
    exact Steps.refl _)
  obtain ⟨T3, X3, q3, st3⟩ := X0.oinit hexec hown (wks W (objW "java/lang/String" 1)) (g := (mkF m 1 #[.val (.ref a), .val (.ref b), .val (.int (Int32.ofNat o)), .val (.int (Int32.ofNat len)), .val .null, .unset] [.ref a])) rfl (by rw [hml]; rfl) (rest := []) rfl (hb hbytes d1) (W := 0) (by show 2 * 0 + 0 ≤ _; decide) (Nat.le_of_ble_eq_true rfl) (Nat.le_of_ble_eq_true rfl)
  have hh3 := q3.trans hh0
  have c4 : Steps p.tables e below (s₁.setTop (entryFrame m #[.ref a, .ref b, .int (Int32.ofNat o), .int (Int32.ofNat len), .null] 6)) (T3.setTop (mkF m 27 #[.val (.ref a), .val (.ref b), .val (.int (Int32.ofNat o)), .val (.int (Int32.ofNat len)), .val .null, .unset] [])) := (c2.trans (st3 _ (Steps.refl _))).trans (by
    refine XS.iloadN X3.here hexec rfl (hb hbytes d4) rfl ?_
    refine XS.ifYes X3.here hexec rfl (pc0 := 5) rfl (hb hbytes d5) rfl (i0_ne_t (nz32 (by omega) l0)) (by decide) rfl ?_
    exact Steps.refl _)
  obtain ⟨T5, X5, q5, st5⟩ := X3.sget hexec hown (wk W (.fieldLink "java/lang/String" 38 "java/lang/String" "COMPACT_STRINGS" "Z")) s1 (fun _ _ h => by rw [hh3]; exact h) (g := (mkF m 27 #[.val (.ref a), .val (.ref b), .val (.int (Int32.ofNat o)), .val (.int (Int32.ofNat len)), .val .null, .unset] [])) rfl (hb hbytes d27)
  have hh5 := q5.trans hh3
  have c6 : Steps p.tables e below (s₁.setTop (entryFrame m #[.ref a, .ref b, .int (Int32.ofNat o), .int (Int32.ofNat len), .null] 6)) (T5.setTop (mkF m 30 #[.val (.ref a), .val (.ref b), .val (.int (Int32.ofNat o)), .val (.int (Int32.ofNat len)), .val .null, .unset] [.int z])) := c4.trans (st5 _ (Steps.refl _))
  have c7 : Steps p.tables e below (s₁.setTop (entryFrame m #[.ref a, .ref b, .int (Int32.ofNat o), .int (Int32.ofNat len), .null] 6)) (T5.setTop (mkF m 36 #[.val (.ref a), .val (.ref b), .val (.int (Int32.ofNat o)), .val (.int (Int32.ofNat len)), .val .null, .unset] [.int (Int32.ofNat len), .int (Int32.ofNat o), .ref b])) := c6.trans (by
    refine XS.ifNo X5.here hexec rfl (hb hbytes d30) rfl (i0_eq_f hz) ?_
    refine XS.aloadN X5.here hexec rfl (hb hbytes d33) rfl rfl ?_
    refine XS.iloadN X5.here hexec rfl (hb hbytes d34) rfl ?_
    refine XS.iloadN X5.here hexec rfl (hb hbytes d35) rfl ?_
    exact Steps.refl _)
  obtain ⟨v8, T8, X8, E8, g8⟩ := X5.callS hexec (Cmp3.law l b A o len) hown (wks W (staticW "java/lang/String" 177 Cmp3.yN)) (wk W Cmp3.tab) (W := 0) (Nat.le_of_ble_eq_true rfl) (Nat.le_of_ble_eq_true rfl) (Nat.le_refl _) (by show 0 + len ≤ len; omega) (g := (mkF m 36 #[.val (.ref a), .val (.ref b), .val (.int (Int32.ofNat o)), .val (.int (Int32.ofNat len)), .val .null, .unset] [.int (Int32.ofNat len), .int (Int32.ofNat o), .ref b])) rfl (by rw [hml]; rfl) c7 (argsL := [.ref b, .int (Int32.ofNat o), .int (Int32.ofNat len)]) (rest := []) rfl rfl (by show 2 * 0 + 0 ≤ _; decide) (hb hbytes d36) (⟨rfl, hA.mv X5.warmed.alike hh5, l1, l2, hp⟩)
  obtain ⟨e8, z8⟩ := E8
  obtain ⟨rfl, N, n1, n2, n3, n4, n5, n6⟩ := NewArr.mv _ T5 s _ _ hh5.symm (Vm.Alike.refl _) rfl e8
  rw [hh5] at z8
  have hB1 := hB.keep X8.warmed.alike (n6 _ _ hB.1)
  have hne : s.heap.size ≠ a := (Nat.ne_of_lt (Array.getElem?_eq_some_iff.mp hB.1).1).symm
  have c9 : Steps p.tables e below (s₁.setTop (entryFrame m #[.ref a, .ref b, .int (Int32.ofNat o), .int (Int32.ofNat len), .null] 6)) (T8.setTop (mkF m 39 #[.val (.ref a), .val (.ref b), .val (.int (Int32.ofNat o)), .val (.int (Int32.ofNat len)), .val .null, .unset] [.ref s.heap.size])) := g8
  have c10 : Steps p.tables e below (s₁.setTop (entryFrame m #[.ref a, .ref b, .int (Int32.ofNat o), .int (Int32.ofNat len), .null] 6)) (T8.setTop (mkF m 45 #[.val (.ref a), .val (.ref b), .val (.int (Int32.ofNat o)), .val (.int (Int32.ofNat len)), .val .null, .val (.ref s.heap.size)] [.int (Int32.ofNat N.slots.size), .ref s.heap.size, .ref a])) := by
    have hc : Steps p.tables e below (s₁.setTop (entryFrame m #[.ref a, .ref b, .int (Int32.ofNat o), .int (Int32.ofNat len), .null] 6)) (T8.setTop (mkF m 45 #[.val (.ref a), .val (.ref b), .val (.int (Int32.ofNat o)), .val (.int (Int32.ofNat len)), .val .null, .val (.ref s.heap.size)] [.int (Int32.ofNat len), .ref s.heap.size, .ref a])) := c9.trans (by
      refine XS.astore X8.here hexec rfl (hb hbytes d39) rfl rfl rfl ?_
      refine XS.aloadN X8.here hexec rfl (hb hbytes d41) rfl rfl ?_
      refine XS.aload X8.here hexec rfl (hb hbytes d42) rfl rfl ?_
      refine XS.iloadN X8.here hexec rfl (hb hbytes d44) rfl ?_
      exact Steps.refl _)
    rw [n4]; exact hc
  obtain ⟨v11, T11, X11, E11, g11⟩ := X8.callS hexec (CodL.law l s.heap.size N) hown (wks W (staticW "java/lang/String" 47 CodL.yN)) (wk W CodL.tab) (W := 1) (Nat.le_of_ble_eq_true rfl) (Nat.le_of_ble_eq_true rfl) (Nat.le_refl _) (by show 0 + len + 0 ≤ len; omega) (g := (mkF m 45 #[.val (.ref a), .val (.ref b), .val (.int (Int32.ofNat o)), .val (.int (Int32.ofNat len)), .val .null, .val (.ref s.heap.size)] [.int (Int32.ofNat N.slots.size), .ref s.heap.size, .ref a])) rfl (by rw [hml]; rfl) c10 (argsL := [.ref s.heap.size, .int (Int32.ofNat N.slots.size)]) (rest := [.ref a]) rfl rfl (by show 2 * 0 + (1 + 0) ≤ _; decide) (hb hbytes d45) (⟨rfl, n1⟩)
  obtain ⟨rfl, q11⟩ := E11
  have hB11 := hB1.mv (X8.warmed.alike.symm.trans X11.warmed.alike) q11
  have c12 : Steps p.tables e below (s₁.setTop (entryFrame m #[.ref a, .ref b, .int (Int32.ofNat o), .int (Int32.ofNat len), .null] 6)) (T11.setTop (mkF m 48 #[.val (.ref a), .val (.ref b), .val (.int (Int32.ofNat o)), .val (.int (Int32.ofNat len)), .val .null, .val (.ref s.heap.size)] [.int 0, .ref a])) := g11
  obtain ⟨T13, X13, p13, bl13, sl13, st13⟩ := X11.finit hexec hown (wk W (.fieldLink "java/lang/String" 15 "java/lang/String" "coder" "B")) (Or.inr ⟨_, (wk W (.laysFinal "java/lang/String" "java/lang/String" "coder" "B"))⟩) (Or.inl ⟨rfl, hnm⟩) f2 (Or.inl rfl) hB11 (t := .byte) (by decide +kernel) rfl (g := (mkF m 48 #[.val (.ref a), .val (.ref b), .val (.int (Int32.ofNat o)), .val (.int (Int32.ofNat len)), .val .null, .val (.ref s.heap.size)] [.int 0, .ref a])) rfl (rest := []) rfl (hb hbytes d48)
  have c14 : Steps p.tables e below (s₁.setTop (entryFrame m #[.ref a, .ref b, .int (Int32.ofNat o), .int (Int32.ofNat len), .null] 6)) (T13.setTop (mkF m 54 #[.val (.ref a), .val (.ref b), .val (.int (Int32.ofNat o)), .val (.int (Int32.ofNat len)), .val .null, .val (.ref s.heap.size)] [.ref s.heap.size, .ref a])) := (c12.trans (st13 _ (Steps.refl _))).trans (by
    refine XS.aloadN X13.here hexec rfl (hb hbytes d51) rfl rfl ?_
    refine XS.aload X13.here hexec rfl (hb hbytes d52) rfl rfl ?_
    exact Steps.refl _)
  obtain ⟨T15, X15, p15, bl15, sl15, st15⟩ := X13.finit hexec hown (wk W (.fieldLink "java/lang/String" 9 "java/lang/String" "value" "[B")) (Or.inr ⟨_, (wk W (.laysFinal "java/lang/String" "java/lang/String" "value" "[B"))⟩) (Or.inl ⟨rfl, hnm⟩) f1 (Or.inl rfl) bl13 (t := (.array .byte)) (by decide +kernel) rfl (g := (mkF m 54 #[.val (.ref a), .val (.ref b), .val (.int (Int32.ofNat o)), .val (.int (Int32.ofNat len)), .val .null, .val (.ref s.heap.size)] [.ref s.heap.size, .ref a])) rfl (rest := []) rfl (hb hbytes d54)
  have c16 : Steps p.tables e below (s₁.setTop (entryFrame m #[.ref a, .ref b, .int (Int32.ofNat o), .int (Int32.ofNat len), .null] 6)) (T15.setTop (mkF m 57 #[.val (.ref a), .val (.ref b), .val (.int (Int32.ofNat o)), .val (.int (Int32.ofNat len)), .val .null, .val (.ref s.heap.size)] [])) := c14.trans (st15 _ (Steps.refl _))
  have ap := apart (Or.inr ⟨_, (wk W (.laysFinal "java/lang/String" "java/lang/String" "value" "[B"))⟩) (Or.inr ⟨_, (wk W (.laysFinal "java/lang/String" "java/lang/String" "coder" "B"))⟩) f1 f2 (t₁ := .array .byte) (t₂ := .byte) (by decide +kernel) (by decide +kernel) (by decide)
  have al := X8.warmed.alike.symm.trans X15.warmed.alike
  have n7 : T11.heap[s.heap.size]? = some N := by rw [q11]; exact n1.1
  exact ⟨T15, none, _, _, _, X15, by simp, rfl, by omega, (fun _ => rfl), ⟨rfl, _, N, bl15, ((Same.refl D _).set _ (by simp)).set _ (by simp), sl15, (Cell.slots_setSlot_ne _ ap).trans sl13, n1.keep al (p15.other hne (p13.other hne n7)), n2, by rw [al.findClass]; exact n3, n4, n5, fun y c h1 h2 => p15.other h1 (p13.other h1 (by rw [q11]; exact n6 y c h2)), by rw [p15.2.2, p13.2.2, q11]; exact z8⟩, fun fs hl => c16.trans (X15.returnOut hexec hret (hb hbytes d57) hl)⟩
end New4
namespace New1
def yN : MethodName := ⟨"java/lang/String", "<init>", "([C)V"⟩
abbrev yB : ByteArray := jdk_42_method_3_code
theorem d0 : decode yB 0 = .ok (.aload_n 0, 1) := by decide +kernel
theorem d1 : decode yB 1 = .ok (.aload_n 1, 1) := by decide +kernel
theorem d2 : decode yB 2 = .ok (.iconst 0, 1) := by decide +kernel
theorem d3 : decode yB 3 = .ok (.aload_n 1, 1) := by decide +kernel
theorem d4 : decode yB 4 = .ok (.arraylength, 1) := by decide +kernel
theorem d5 : decode yB 5 = .ok (.aconst_null, 1) := by decide +kernel
theorem d6 : decode yB 6 = .ok (.invokespecial 27, 3) := by decide +kernel
theorem d9 : decode yB 9 = .ok (.return_, 1) := by decide +kernel
def site : List Cond := [New4.tab] ++ initW "java/lang/String" 27 New4.yN
def tab : Cond := tabOf yN yB 2 none site
def P (a : Addr) (D : Cell) (fV fC : Field) (b : Addr) (A : Cell) (z : Int32) (args : Array Value) (s : State) : Prop := args = #[.ref a, .ref b] ∧ Blank "java/lang/String" a D s ∧ Found "java/lang/String" "value" "[B" fV s ∧ Found "java/lang/String" "coder" "B" fC s ∧ Ch b A s ∧ StaticIs s "java/lang/String" "COMPACT_STRINGS" "Z" (.int z) ∧ ¬ z = 0 ∧ 0 < A.slots.size ∧ A.slots.size ≤ 536870912 ∧ ∀ i, i < A.slots.size → ¬ 255 < cv A i
def E (a : Addr) (D : Cell) (fV fC : Field) (A : Cell) (r : Option Value) (s u : State) : Prop := Got a D fV fC A 0 A.slots.size r s u
/-- new String(chars), not empty, no char above 255: a Latin-1 String of their low bytes -/
theorem law (l : Launch) (a : Addr) (D : Cell) (fV fC : Field) (b : Addr) (A : Cell) (z : Int32) : Law l yN 2 1 3 52 yB 2 none site (P a D fV fC b A z) (E a D fV fC A) [⟨a, fC.slot⟩, ⟨a, fV.slot⟩] 1 A.slots.size := by
  refine Law.of_walk (plainFor_of_name (by decide +kernel)) (by decide +kernel) (by decide +kernel) (by decide) (fun _ _ h => by rw [h.1]; rfl) (fun _ U U' hal hh h => ⟨h.1, h.2.1.mv hal hh, h.2.2.1.al hal, h.2.2.2.1.al hal, h.2.2.2.2.1.mv hal hh, h.2.2.2.2.2.1.there hal hh, h.2.2.2.2.2.2⟩) (fun r U U' V V' h1 hal h2 h => Got.mv r U U' V V' h1 hal h2 h) ?_
  intro p e s m args below meth c s₁ X0 hexec hbytes hml hret hlk hnm hown hh0 W hP
  obtain ⟨rfl, hB, f1, f2, hA, s1, hz, l0, l2, hp⟩ := hP
  have c1 : Steps p.tables e below (s₁.setTop (entryFrame m #[.ref a, .ref b] 2)) (s₁.setTop (mkF m 0 #[.val (.ref a), .val (.ref b)] [])) := entry rfl
  have c2 : Steps p.tables e below (s₁.setTop (entryFrame m #[.ref a, .ref b] 2)) (s₁.setTop (mkF m 6 #[.val (.ref a), .val (.ref b)] [.null, .int (Int32.ofNat A.slots.size), .int 0, .ref b, .ref a])) := c1.trans (by
    refine XS.aloadN X0.here hexec rfl (hb hbytes d0) rfl rfl ?_
    refine XS.aloadN X0.here hexec rfl (hb hbytes d1) rfl rfl ?_
    refine iconstV X0.here hexec rfl 0 (hb hbytes d2) (by decide) ?_
    refine XS.aloadN X0.here hexec rfl (hb hbytes d3) rfl rfl ?_
    refine X0.alen hexec (hA.1.mv X0.warmed.alike hh0) rfl rfl (hb hbytes d4) ?_
    refine XS.aconstNull X0.here hexec rfl (hb hbytes d5) ?_
    exact Steps.refl _)
  obtain ⟨v3, T3, X3, E3, g3⟩ := X0.callN hexec (New4.law l a D fV fC b A z 0 A.slots.size) rfl hown (wks W (initW "java/lang/String" 27 New4.yN)) (W New4.tab (by simp only [site, List.mem_cons, List.mem_append, true_or, or_true])) (W := 0) (Nat.le_of_ble_eq_true rfl) (Nat.le_of_ble_eq_true rfl) (Nat.le_refl _) (by show 0 + A.slots.size ≤ A.slots.size; omega) (g := (mkF m 6 #[.val (.ref a), .val (.ref b)] [.null, .int (Int32.ofNat A.slots.size), .int (Int32.ofNat 0), .ref b, .ref a])) rfl (by rw [hml]; rfl) c2 (argsL := [.ref b, .int (Int32.ofNat 0), .int (Int32.ofNat A.slots.size), .null]) (rest := []) rfl rfl (by show 2 * 0 + 0 ≤ _; decide) (hb hbytes d6) (⟨rfl, hB.mv X0.warmed.alike hh0, f1.al X0.warmed.alike, f2.al X0.warmed.alike, hA.mv X0.warmed.alike hh0, s1.there X0.warmed.alike hh0, hz, l0, by omega, l2, fun i hi => by rw [Nat.zero_add]; exact hp i hi⟩)
  have e0 := Got.mv _ s₁ s _ _ hh0.symm (Vm.Alike.refl _) rfl E3
  obtain rfl := e0.1
  have c4 : Steps p.tables e below (s₁.setTop (entryFrame m #[.ref a, .ref b] 2)) (T3.setTop (mkF m 9 #[.val (.ref a), .val (.ref b)] [])) := g3
  exact ⟨T3, none, _, _, _, X3, by simp, rfl, by omega, (fun _ => rfl), e0, fun fs hl => c4.trans (X3.returnOut hexec hret (hb hbytes d9) hl)⟩
theorem pays {l : Launch} {R : Room} {p : Program} {e : Env} {below : List Frame} {s : State} {sargs : Array Value} {len W : Nat} (a : Addr) (D : Cell) (fV fC : Field) (b : Addr) (A : Cell) (z : Int32) (htab : tab.before sargs s = true) (hfr : 4 ≤ R.frames) (hlo : W + 65 ≤ R.locals) :
    Back l R p e below s sargs yN len W (fun A₁ a₁ => A₁.cells + 1 ≤ R.cells ∧ A₁.slots + A.slots.size ≤ R.slots ∧ P a D fV fC b A z a₁ A₁.U) (fun A₁ _ v₁ B₁ => E a D fV fC A v₁ A₁.U B₁.U ∧ B₁.locs = A₁.locs ++ [⟨a, fC.slot⟩, ⟨a, fV.slot⟩] ∧ B₁.cells = A₁.cells + 1 ∧ B₁.slots = A₁.slots + A.slots.size) :=
  (law l a D fV fC b A z).pays htab hfr (by omega)
end New1
end StrChars
namespace StrChars.Road
open Jvm Sem ClassFile Op Lib Jvm.Stand Jvm.Free Jvm.Free.XT
open Jvm.Lib.Cold (StaticIs)
abbrev ST : String := "java/lang/String"
/-- every table word that New1's law asks, flat -/
abbrev words : List Jvm.Cond := [.code New1.yN New1.yB 2 none, .initialized ST, .methodLink ST 27 New4.yN, .instanceMethod New4.yN,
  .code New4.yN New4.yB 6 none, .fieldLink ST 38 ST "COMPACT_STRINGS" "Z", .laysFinal ST ST "value" "[B", .fieldLink ST 9 ST "value" "[B", .laysFinal ST ST "coder" "B", .fieldLink ST 15 ST "coder" "B",
  .methodLink ST 1 Lib.objectInit, .instanceMethod Lib.objectInit, .code Lib.objectInit ⟨#[0xb1]⟩ 1 none, .methodLink ST 177 Cmp3.yN, .static Cmp3.yN, .methodLink ST 47 CodL.yN, .static CodL.yN,
  .code Cmp3.yN Cmp3.yB 6 (some (.array .byte)), .initialized U16, .arrayClass .byte, .methodLink U16 115 Cmp5.yN, .static Cmp5.yN, .code Cmp5.yN Cmp5.yB 7 (some .int), .code CodL.yN CodL.yB 2 (some .byte)]
theorem tab_of {a : Array Value} {s : State} (h : ∀ w ∈ words, w.before a s = true) : New1.tab.before a s = true := by
  have h5 : Cmp5.tab.before a s = true := unparts (wk h (.code Cmp5.yN Cmp5.yB 7 (some .int))) (wks h (.initialized Cmp5.yN.cls :: Cmp5.site))
  have hc : CodL.tab.before a s = true := unparts (wk h (.code CodL.yN CodL.yB 2 (some .byte))) (wks h (.initialized CodL.yN.cls :: CodL.site))
  have q5 : ∀ w ∈ Cmp5.tab :: words, w.before a s = true := fun w hw => (List.mem_cons.mp hw).elim (fun e => e ▸ h5) (h w)
  have h3 : Cmp3.tab.before a s = true := unparts (wk q5 (.code Cmp3.yN Cmp3.yB 6 (some (.array .byte)))) (wks q5 (.initialized Cmp3.yN.cls :: Cmp3.site))
  have q3 : ∀ w ∈ Cmp3.tab :: CodL.tab :: words, w.before a s = true := fun w hw => (List.mem_cons.mp hw).elim (fun e => e ▸ h3) fun hw => (List.mem_cons.mp hw).elim (fun e => e ▸ hc) (h w)
  have h4 : New4.tab.before a s = true := unparts (wk q3 (.code New4.yN New4.yB 6 none)) (wks q3 (.initialized New4.yN.cls :: New4.site))
  have q4 : ∀ w ∈ New4.tab :: words, w.before a s = true := fun w hw => (List.mem_cons.mp hw).elim (fun e => e ▸ h4) (h w)
  exact unparts (wk q4 (.code New1.yN New1.yB 2 none)) (wks q4 (.initialized New1.yN.cls :: New1.site))
/-- the words ride from the start Z to the walk's own state -/
theorem moved {Z s : State} {a0 args : Array Value} (hZ : Z.Warmed39 s.vm) (hw : ∀ d ∈ words, d.before a0 Z = true) : ∀ d ∈ words, d.before args s = true := fun d hd => by
  have q := hw d hd
  have t : ∀ d ∈ words, d = .arrayClass .byte ∨ (d.onTables && d.keepsFace) = true := by decide +kernel
  rcases t d hd with rfl | t
  · exact RoadKit.mvA hZ q
  · exact RoadKit.mv hZ q t
/-- WHAT COMES BACK, over the tables of the start Z: h the heap at the call, h' behind it -/
def Q (Z : State) (x : Addr) (A : Cell) (h : Heap) (v : Option Value) (h' : Heap) (L : List Loc) : Prop := v = none ∧ (∀ y ∈ L, y.base = x) ∧ RoadKit.Keep h h' [x] ∧ h'.size = h.size + 1 ∧ RoadKit.Exa Z h' x ST ∧ RoadKit.Fld Z h' x ST "value" "[B" (.ref h.size) ∧ RoadKit.Fld Z h' x ST "coder" "B" (.int 0) ∧
  (∃ V : Cell, RoadKit.Arr Z h' h.size V .byte ∧ V.vm = .none ∧ Z.vm.findClass "[B" = some V.cls ∧ V.slots.size = A.slots.size ∧ ∀ j, j < A.slots.size → V.slots[j]? = some (.int (lo8 (cv A j)))) ∧
  ∀ (O n d : String) (w : Value), RoadKit.Fld Z h x O n d w → RoadKit.slotOf Z O n d ≠ RoadKit.slotOf Z ST "value" "[B" → RoadKit.slotOf Z O n d ≠ RoadKit.slotOf Z ST "coder" "B" → RoadKit.Fld Z h' x O n d w
/-- **new String(chars) AT A CALL, IN THE ROAD'S FORM**: for specialBack behind newO: x the fresh String, b the char[] with the cell A -/
theorem back {p : Program} {l : Launch} {e : Env} {R : Room} {s : State} {args : Array Value} {below : List Frame} {len W : Nat} {Z : State} {a0 : Array Value} {h : Heap} (hZ : Z.Warmed39 s.vm) (hw : ∀ d ∈ words, d.before a0 Z = true) {kI : Nat} (wi : (Jvm.Cond.instantiable ST kI).before a0 Z = true)
    {x b : Addr} {A : Cell} {z : Int32} {v0 c0 : Value} (E : RoadKit.Exa Z h x ST) (V : RoadKit.Fld Z h x ST "value" "[B" v0) (C : RoadKit.Fld Z h x ST "coder" "B" c0) (K : RoadKit.Arr Z h b A .char) (hty : Typed .char A) (S : RoadKit.Sta Z h ST "COMPACT_STRINGS" "Z" (.int z)) (hz : ¬ z = 0)
    (l0 : 0 < A.slots.size) (l2 : A.slots.size ≤ 536870912) (hp : ∀ i, i < A.slots.size → ¬ 255 < cv A i) (hfr : 4 ≤ R.frames) (hlo : W + 65 ≤ R.locals) :
    Back l R p e below s args New1.yN len W (fun P a => a = #[.ref x, .ref b] ∧ P.U.heap = h ∧ P.cells + 1 ≤ R.cells ∧ P.slots + A.slots.size ≤ R.slots)
      (fun P _ v B => ∃ L, Q Z x A h v B.U.heap L ∧ B.locs = P.locs ++ L ∧ B.cells = P.cells + 1 ∧ B.slots = P.slots + A.slots.size) := by
  intro m meth c P g ig mk a X hg hsize hdg hW hn hp'
  obtain ⟨rfl, rfl, r1, r2⟩ := hp'
  have al : Z.vm.Alike P.U.vm := hZ.alike.trans X.warmed.alike
  obtain ⟨D, cfV, kV, iV, fV, hD, gV, stV, knV, obV, asV, slV⟩ := id V
  obtain ⟨D', cfC, kC, iC, fC, hD', gC, stC, -, -, asC, slC⟩ := id C
  cases hD.symm.trans hD'
  obtain ⟨D2, kD, e1, e2, e3, e4, e5⟩ := id E
  cases hD.symm.trans e1
  obtain ⟨c2, k2, i1, i2, i3, -⟩ := Cond.instantiable_spec wi
  cases e2.symm.trans i1
  cases e3.symm.trans i2
  obtain ⟨kU, u1, u2⟩ := al.2.2 _ _ e3
  have hB : Blank ST x D P.U := ⟨hD, ⟨knV, fun q hq => by rw [hq] at obV; cases obV⟩, by rw [al.findClass]; exact e2, kU, u1, by rw [u2]; exact i3, by rw [u2]; exact e5 i3⟩
  have F1 : Found ST "value" "[B" fV P.U := ⟨SBG.found_only al ⟨cfV, kV, iV, gV⟩, stV⟩
  have F2 : Found ST "coder" "B" fC P.U := ⟨SBG.found_only al ⟨cfC, kC, iC, gC⟩, stC⟩
  have hA : Ch b A P.U := ⟨⟨K.1, State.isArrayOf_alike al K.2.1, K.2.2, by omega⟩, hty⟩
  have hS : StaticIs P.U ST "COMPACT_STRINGS" "Z" (.int z) := by
    obtain ⟨cfS, iS, kS, fS, st, cS, t1, t2, t3, t4, t5, t6, t7⟩ := S
    exact StaticIs.there (s := { Z with heap := P.U.heap }) ⟨cfS, iS, kS, fS, st, cS, t1, t2, t3, t4, t5, (fun q => by rw [q] at t6; cases t6), t7⟩ al rfl
  obtain ⟨v, B, X', ⟨⟨hv, E', V', q1, q2, q3, q4, q5, q6, q7, q8, q9, q10, q11⟩, hl, hc, hs⟩, st⟩ := New1.pays x D fV fC b A z (tab_of (moved hZ hw)) hfr hlo m meth c P g ig mk _ X hg hsize hdg hW hn ⟨r1, r2, rfl, hB, F1, F2, hA, hS, hz, l0, l2, hp⟩
  have al' : Z.vm.Alike B.U.vm := hZ.alike.trans X'.warmed.alike
  have hsz : E'.slots.size = D.slots.size := by
    obtain ⟨-, -, -, kB, w1, w2, w3⟩ := q1
    obtain ⟨kB', y1, y2⟩ := al'.2.2 _ _ e3
    rw [q2.2.1] at w1
    cases w1.symm.trans y1
    rw [w3, e5 i3, y2]
  refine ⟨v, B, X', ⟨_, ⟨hv, ?_, ⟨by omega, fun y cy hy hn' => q10 y cy (by simpa using hn') hy, fun y cy hy => ?_⟩, q11, ⟨E', _, q1.1, by rw [q2.2.1]; exact e2, by rw [q2.2.1]; exact e3, by rw [q2.1]; exact obV, fun _ => by rw [hsz]; exact e5 i3⟩,
    ⟨E', cfV, kV, iV, fV, q1.1, gV, stV, by rw [q2.1]; exact knV, by rw [q2.1]; exact obV, by rw [q2.2.1]; exact asV, q3⟩, ⟨E', cfC, kC, iC, fC, q1.1, gC, stC, by rw [q2.1]; exact knV, by rw [q2.1]; exact obV, by rw [q2.2.1]; exact asC, q4⟩,
    ⟨V', ⟨q5.1, State.isArrayOf_alike al'.symm q5.2.1, q5.2.2.1⟩, q6, by rw [← al'.findClass]; exact q7, q8, fun j hj => by have := q9 j hj; rwa [Nat.zero_add] at this⟩, fun O n d w F n1 n2 => ?_⟩, hl, hc, hs⟩, st⟩
  · intro y hy
    simp only [List.mem_cons, List.not_mem_nil, or_false] at hy
    rcases hy with rfl | rfl <;> rfl
  · by_cases q : y = x
    · subst q
      cases hD.symm.trans hy
      exact ⟨E', q1.1, q2.2.1, q2.1, hsz⟩
    · exact ⟨cy, q10 y cy q hy, rfl, rfl, rfl⟩
  · obtain ⟨D3, cf, k, i, f, g1, g2, g3, g4, g5, g6, g7⟩ := F
    cases hD.symm.trans g1
    simp only [RoadKit.slotOf, g2, gV, gC, Option.map_some, Option.getD_some] at n1 n2
    exact ⟨E', cf, k, i, f, q1.1, g2, g3, by rw [q2.1]; exact g4, by rw [q2.1]; exact g5, by rw [q2.2.1]; exact g6, by rw [q2.2.2 f.slot (by simp [n1, n2])]; exact g7⟩
end StrChars.Road
namespace StrChars.Road
open Jvm Sem ClassFile Op Lib Jvm.Stand Jvm.Free Jvm.Free.XT
/-- WHAT COMES BACK, the byte[] as a list of values -/
def QA (Z : State) (x : Addr) (zn : Int32) (cs : List Int32) (h : Heap) (v : Option Value) (h' : Heap) (L : List Loc) : Prop := v = none ∧ (∀ y ∈ L, y.base = x) ∧ RoadKit.Keep h h' [x] ∧ h'.size = h.size + 1 ∧ RoadKit.Exa Z h' x ST ∧ RoadKit.Fld Z h' x ST "value" "[B" (.ref h.size) ∧ RoadKit.Fld Z h' x ST "coder" "B" (.int 0) ∧
  (∃ kb, Z.vm.findClass "[B" = some kb ∧ RoadKit.Arv Z h' h.size kb .byte zn (cs.map fun c => .int (lo8 c)) (.int 0)) ∧
  ∀ (O n d : String) (w : Value), RoadKit.Fld Z h x O n d w → RoadKit.slotOf Z O n d ≠ RoadKit.slotOf Z ST "value" "[B" → RoadKit.slotOf Z O n d ≠ RoadKit.slotOf Z ST "coder" "B" → RoadKit.Fld Z h' x O n d w
/-- **new String(chars) AT A CALL, THE ARRAYS AS LISTS**: the char[] at b holds cs, not empty, no char above 255 -/
theorem backArv {p : Program} {l : Launch} {e : Env} {R : Room} {s : State} {args : Array Value} {below : List Frame} {len W : Nat} {Z : State} {a0 : Array Value} {h : Heap} (hZ : Z.Warmed39 s.vm) (hw : ∀ d ∈ words, d.before a0 Z = true) {kI : Nat} (wi : (Jvm.Cond.instantiable ST kI).before a0 Z = true)
    {x b : Addr} {k : ClassId} {zn z : Int32} {cs : List Int32} {dv v0 c0 : Value} (E : RoadKit.Exa Z h x ST) (V : RoadKit.Fld Z h x ST "value" "[B" v0) (C : RoadKit.Fld Z h x ST "coder" "B" c0) (K : RoadKit.Arv Z h b k .char zn (cs.map Value.int) dv) (S : RoadKit.Sta Z h ST "COMPACT_STRINGS" "Z" (.int z)) (hz : ¬ z = 0)
    (hlen : zn.toNatClampNeg = cs.length) (h0 : 0 < cs.length) (hbig : cs.length ≤ 536870912) (hall : ∀ c ∈ cs, ¬ 255 < c) (hfr : 4 ≤ R.frames) (hlo : W + 65 ≤ R.locals) :
    Back l R p e below s args New1.yN len W (fun P a => a = #[.ref x, .ref b] ∧ P.U.heap = h ∧ P.cells + 1 ≤ R.cells ∧ P.slots + cs.length ≤ R.slots)
      (fun P _ v B => ∃ L, QA Z x zn cs h v B.U.heap L ∧ B.locs = P.locs ++ L ∧ B.cells = P.cells + 1 ∧ B.slots = P.slots + cs.length) := by
  obtain ⟨A, K1, K2, K3, K4, K5, K6⟩ := K
  have e : A.slots.size = cs.length := K3.trans hlen
  have hat : ∀ (i : Nat) (hi : i < cs.length), A.slots[i]? = some (.int cs[i]) := fun i hi => by rw [K5 i (by omega)]; simp [List.getD_eq_getElem?_getD, hi]
  have hcv : ∀ (i : Nat) (hi : i < cs.length), cv A i = cs[i] := fun i hi => by unfold cv; rw [hat i hi]
  have hty : Typed .char A := fun i v hv => by
    have hi : i < A.slots.size := (Array.getElem?_eq_some_iff.mp hv).1
    have q := K5 i hi
    rw [hv] at q
    rw [Option.some.inj q]
    exact K6 i hi
  refine Back.mono (back hZ hw wi E V C K1 hty S hz (by omega) (by omega) (fun i hi => by rw [hcv i (by omega)]; exact hall _ (List.getElem_mem _)) hfr hlo) (fun P a hp => ⟨hp.1, hp.2.1, hp.2.2.1, by rw [e]; exact hp.2.2.2⟩) (fun P a v B hp hq => ?_)
  obtain ⟨L, ⟨q1, q2, q3, q4, q5, q6, q7, ⟨V', v1, v2, v3, v4, v5⟩, q9⟩, hl, hc, hs⟩ := hq
  refine ⟨L, ⟨q1, q2, q3, q4, q5, q6, q7, ⟨V'.cls, v3, V', v1, rfl, by rw [v4, e, hlen], K4, fun i hi => ?_, fun i hi => ?_⟩, q9⟩, hl, hc, by rw [hs, e]⟩
  · have hi' : i < cs.length := by omega
    rw [v5 i (by omega), hcv i hi']; simp [List.getD_eq_getElem?_getD, hi']
  · have hi' : i < cs.length := by omega
    simp only [List.getD_eq_getElem?_getD, List.getElem?_map, List.getElem?_eq_getElem hi', Option.map_some, Option.getD_some]
    exact fits_lo8 _
end StrChars.Road
namespace StrChars.Road
open Jvm Sem ClassFile Op Lib Jvm.Stand Jvm.Free Jvm.Free.XT
/-- WHAT COMES BACK, in the writer's own shape -/
def QV (Z : State) (x : Addr) (N : Int32) (bs : List Int32) (h : Heap) (n0 : Nat) (v : Option Value) (h' : Heap) (L : List Loc) : Prop := v = none ∧ RoadKit.Fr n0 L ∧ RoadKit.Keep h h' [x] ∧ RoadKit.Exa Z h' x ST ∧ RoadKit.Fld Z h' x ST "coder" "B" (.int 0) ∧
  ∃ (t : Addr) (kb : ClassId), n0 ≤ t ∧ h.size ≤ t ∧ ¬ t = x ∧ RoadKit.Fld Z h' x ST "value" "[B" (.ref t) ∧ RoadKit.Arv Z h' t kb .byte N (bs.map Value.int) (.int 0)
/-- **new String(chars) AT A CALL, FOR THE WRITER**: a char[] of n known ints, each 0 to 255 -/
theorem backV {p : Program} {l : Launch} {e : Env} {R : Room} {s : State} {args : Array Value} {below : List Frame} {len W : Nat} {Z : State} {a0 : Array Value} {h : Heap} (hZ : Z.Warmed39 s.vm) (hw : ∀ d ∈ words, d.before a0 Z = true) {kI : Nat} (wi : (Jvm.Cond.instantiable ST kI).before a0 Z = true)
    {x b : Addr} {kC : ClassId} {cs bs : List Int32} {d v0 c0 : Value} {z N : Int32} {n n0 : Nat} (hx0 : n0 ≤ x) (hh0 : n0 ≤ h.size) (E : RoadKit.Exa Z h x ST) (V : RoadKit.Fld Z h x ST "value" "[B" v0) (C : RoadKit.Fld Z h x ST "coder" "B" c0) (K : RoadKit.Arv Z h b kC .char N (cs.map Value.int) d) (S : RoadKit.Sta Z h ST "COMPACT_STRINGS" "Z" (.int z)) (hz : ¬ z = 0)
    (hn : cs.length = n) (hN : N = Int32.ofNat n) (l0 : 0 < n) (l2 : n ≤ 4000) (hp : ∀ c ∈ cs, ¬ c < 0 ∧ ¬ (255 : Int32) < c) (hb : bs = cs.map (fun c => c.toInt8.toInt32)) (hfr : 4 ≤ R.frames) (hlo : W + 65 ≤ R.locals) :
    Back l R p e below s args (⟨"java/lang/String", "<init>", "([C)V"⟩ : MethodName) len W (fun P a => a = #[.ref x, .ref b] ∧ P.U.heap = h ∧ P.cells + 1 ≤ R.cells ∧ P.slots + n ≤ R.slots)
      (fun P _ v B => ∃ L, QV Z x N bs h n0 v B.U.heap L ∧ B.locs = P.locs ++ L ∧ B.cells = P.cells + 1 ∧ B.slots = P.slots + n) := by
  subst hn hN hb
  refine Back.mono (backArv hZ hw wi E V C K S hz (n32 (by omega)) l0 (by omega) (fun c hc => (hp c hc).2) hfr hlo) (fun P a hp => hp) (fun P a v B hp hq => ?_)
  obtain ⟨L, ⟨q1, q2, q3, q4, q5, q6, q7, ⟨kb, v1, v2⟩, q9⟩, hl, hc, hs⟩ := hq
  exact ⟨L, ⟨q1, fun y hy => by rw [q2 y hy]; exact hx0, q3, q5, q7, h.size, kb, hh0, Nat.le_refl _, Nat.ne_of_gt E.lt, q6, by rw [List.map_map]; exact v2⟩, hl, hc, hs⟩
end StrChars.Road
end Jvm.Pilot.@@N@@
namespace Jvm.Pilot.@@N@@
open Jvm Jvm.ClassFile Sem Op Lib Jvm.Free Jvm.Stand Jvm.LawKit Jvm.RoadKit Jvm.Own Bundle Jvm.Pilot.@@N@@.Jvm.D
theorem dc_prog_9_method_1_code_0 : decode prog_9_method_1_code 0 = .ok (.aload_n 0, 1) := by decide +kernel
theorem dc_prog_9_method_1_code_1 : decode prog_9_method_1_code 1 = .ok (.invokespecial 3, 3) := by decide +kernel
theorem dc_prog_9_method_1_code_4 : decode prog_9_method_1_code 4 = .ok (.aload_n 0, 1) := by decide +kernel
theorem dc_prog_9_method_1_code_5 : decode prog_9_method_1_code 5 = .ok (.iload_n 1, 1) := by decide +kernel
theorem dc_prog_9_method_1_code_6 : decode prog_9_method_1_code 6 = .ok (.putfield 9, 3) := by decide +kernel
theorem dc_prog_9_method_1_code_9 : decode prog_9_method_1_code 9 = .ok (.aload_n 0, 1) := by decide +kernel
theorem dc_prog_9_method_1_code_10 : decode prog_9_method_1_code 10 = .ok (.aload_n 2, 1) := by decide +kernel
theorem dc_prog_9_method_1_code_11 : decode prog_9_method_1_code 11 = .ok (.putfield 15, 3) := by decide +kernel
theorem dc_prog_9_method_1_code_14 : decode prog_9_method_1_code 14 = .ok (.return_, 1) := by decide +kernel
theorem dc_prog_9_method_4_code_0 : decode prog_9_method_4_code 0 = .ok (.aload_n 0, 1) := by decide +kernel
theorem dc_prog_9_method_4_code_1 : decode prog_9_method_4_code 1 = .ok (.getfield 9, 3) := by decide +kernel
theorem dc_prog_9_method_4_code_4 : decode prog_9_method_4_code 4 = .ok (.iconst 5, 1) := by decide +kernel
theorem dc_prog_9_method_4_code_5 : decode prog_9_method_4_code 5 = .ok (.if_icmp .lt 7, 3) := by decide +kernel
theorem dc_prog_9_method_4_code_12 : decode prog_9_method_4_code 12 = .ok (.iconst 0, 1) := by decide +kernel
theorem dc_prog_9_method_4_code_13 : decode prog_9_method_4_code 13 = .ok (.ireturn, 1) := by decide +kernel
theorem dc_prog_9_method_4_code_8 : decode prog_9_method_4_code 8 = .ok (.iconst 1, 1) := by decide +kernel
theorem dc_prog_9_method_4_code_9 : decode prog_9_method_4_code 9 = .ok (.goto 4, 3) := by decide +kernel
theorem pd_0 : parseMethodDescriptor "([C)V" = some ⟨[(.array .char)], none⟩ := by decide +kernel
theorem pd_1 : parseMethodDescriptor "(ILjava/lang/String;)V" = some ⟨[.int, (.object "java/lang/String")], none⟩ := by decide +kernel
theorem pd_2 : parseMethodDescriptor "()Z" = some ⟨[], some .boolean⟩ := by decide +kernel

def downF (p : Int32) : Int32 := if p < 5 then 0 else 1
theorem own_down (p : Int32) : lcmpW (p.toInt64 - 5) 0 < 0 ↔ p < 5 := by
  rw [lw_lt, Int64.lt_iff_toInt_lt, Int32.lt_iff_toInt_lt]
  have h1 := c_lsub p.toInt64 5
  have h2 := c_i2l p
  have h3 := rng32 p
  have h4 := rng64 (p.toInt64 - 5)
  have h5 : (5 : Int64).toInt = 5 := by decide
  have h6 : (0 : Int64).toInt = 0 := by decide
  have h7 : (5 : Int32).toInt = 5 := by decide
  rw [h2, h5] at h1
  rw [h6, h7]
  omega
theorem own_255 (x : Int32) : ¬ (x &&& 255) < 0 ∧ ¬ (255 : Int32) < (x &&& 255) := by
  have h := c_and x 255 (by decide)
  have h7 : (255 : Int32).toInt = 255 := by decide
  have h0 : (0 : Int32).toInt = 0 := by decide
  rw [Int32.lt_iff_toInt_lt, Int32.lt_iff_toInt_lt, h7, h0]
  omega

set_option maxRecDepth 65536 in
set_option maxHeartbeats 40000000 in
theorem rm_init {l : Launch} {Z : State} {a0 : Array Value} (hw : ∀ d ∈ tables_1, d.before a0 Z = true) (a1 : Addr) (p2 : Int32) (a3 : Addr) (u1 u2 : Value) (h0 : Heap) (E1 : Exa Z h0 a1 "com/example/least1/least1/RouteMetrics$Waiting") (F1 : Fld Z h0 a1 "com/example/least1/least1/RouteMetrics$Waiting" "failures" "I" u1) (F2 : Fld Z h0 a1 "com/example/least1/least1/RouteMetrics$Waiting" "answer" "Ljava/lang/String;" u2) (g1 : Z.heap.size ≤ a1) :
    Met l Z (⟨"com/example/least1/least1/RouteMetrics$Waiting", "<init>", "(ILjava/lang/String;)V"⟩ : MethodName) prog_9_method_1_code 3 none false [] ({ frames := 1, cells := 0, slots := 0, locals := 12 } : Room) #[(.ref a1), (.int p2), (.ref a3)] h0 (false, [], []) (fun v h J => v = none ∧ Keep h0 h [a1] ∧ Exa Z h a1 "com/example/least1/least1/RouteMetrics$Waiting" ∧ Fld Z h a1 "com/example/least1/least1/RouteMetrics$Waiting" "failures" "I" (.int p2) ∧ Fld Z h a1 "com/example/least1/least1/RouteMetrics$Waiting" "answer" "Ljava/lang/String;" (.ref a3)) := by
  refine Met.of_goes (Ls := #[.val (.ref a1), .val (.int p2), .val (.ref a3)]) (by first | exact plainFor_of_name (by first | (simp [plainName, overriddenIn]; done) | decide +kernel) | decide +kernel) (fun m => by first | (simp [entryFrame, mkF, argsToLocals, Value.category]; done) | rfl) rfl (fun G hGl => ?_)
  subst hGl
  refine Wlk.aloadN (pc' := 1) (v := (.ref a1)) dc_prog_9_method_1_code_0 rfl rfl rfl ?_
  refine Wlk.initO (pc' := 4) (W := 0) dc_prog_9_method_1_code_1 (hw _ (List.mem_of_getElem? (i := 36) rfl)) (hw _ (List.mem_of_getElem? (i := 12) rfl)) (hw _ (List.mem_of_getElem? (i := 13) rfl)) (by decide) rfl (by decide) rfl ?_
  refine Wlk.aloadN (pc' := 5) (v := (.ref a1)) dc_prog_9_method_1_code_4 rfl rfl rfl ?_
  refine Wlk.iloadN (pc' := 6) (v := p2) dc_prog_9_method_1_code_5 rfl rfl ?_
  refine Wlk.putF (pc' := 9) (ty := .int) dc_prog_9_method_1_code_6 (hw _ (List.mem_of_getElem? (i := 37) rfl)) Via.refl F1 E1 (Or.inr ⟨(hw _ (List.mem_of_getElem? (i := 38) rfl)), rfl, rfl⟩) (hw _ (List.mem_of_getElem? (i := 31) rfl)) (by decide) rfl rfl g1 rfl (fun h2 W1 => ?_)
  have F3 := F1.same W1
  refine Wlk.aloadN (pc' := 10) (v := (.ref a1)) dc_prog_9_method_1_code_9 rfl rfl rfl ?_
  refine Wlk.aloadN (pc' := 11) (v := (.ref a3)) dc_prog_9_method_1_code_10 rfl rfl rfl ?_
  have c4 := (F2.other W1 (Or.inr (slot_ne (Or.inr (hw _ (List.mem_of_getElem? (i := 40) rfl))) (Or.inr (hw _ (List.mem_of_getElem? (i := 38) rfl))) (by decide) (t := (.object "java/lang/String")) (t' := .int) (by decide) (by decide))))
  have c5 := (E1.wr W1)
  refine Wlk.putF (pc' := 14) (ty := (.object "java/lang/String")) dc_prog_9_method_1_code_11 (hw _ (List.mem_of_getElem? (i := 39) rfl)) Via.refl c4 c5 (Or.inr ⟨(hw _ (List.mem_of_getElem? (i := 40) rfl)), rfl, rfl⟩) (hw _ (List.mem_of_getElem? (i := 31) rfl)) (by decide) rfl rfl g1 rfl (fun h7 W6 => ?_)
  have F8 := c4.same W6
  refine Wlk.return_ dc_prog_9_method_1_code_14 rfl (by decide) (by decide) ?_
  have c9 := (c5.wr W6)
  have c10 := (F3.other W6 (Or.inr (slot_ne (Or.inr (hw _ (List.mem_of_getElem? (i := 38) rfl))) (Or.inr (hw _ (List.mem_of_getElem? (i := 40) rfl))) (by decide) (t := .int) (t' := (.object "java/lang/String")) (by decide) (by decide))))
  exact ⟨rfl, (((Keep.refl h0 [a1]).wr W1 (Or.inl (List.mem_of_getElem? (i := 0) rfl))).wr W6 (Or.inl (List.mem_of_getElem? (i := 0) rfl))), c9, c10, F8⟩

set_option maxRecDepth 65536 in
set_option maxHeartbeats 40000000 in
theorem rm_down {l : Launch} {Z : State} {a0 : Array Value} (hw : ∀ d ∈ tables_1, d.before a0 Z = true) (a1 : Addr) (p2 : Int32) (h0 : Heap) (F1 : Fld Z h0 a1 "com/example/least1/least1/RouteMetrics$Waiting" "failures" "I" (.int p2)) :
    Met l Z (⟨"com/example/least1/least1/RouteMetrics$Waiting", "isDown", "()Z"⟩ : MethodName) prog_9_method_4_code 1 (some .boolean) false [] ({ frames := 0, cells := 0, slots := 0, locals := 0 } : Room) #[(.ref a1)] h0 (false, [], []) (fun v h J => v = some (.int (downF p2)) ∧ h0 = h) := by
  refine Met.of_goes (Ls := #[.val (.ref a1)]) (by first | exact plainFor_of_name (by first | (simp [plainName, overriddenIn]; done) | decide +kernel) | decide +kernel) (fun m => by first | (simp [entryFrame, mkF, argsToLocals, Value.category]; done) | rfl) rfl (fun G hGl => ?_)
  subst hGl
  refine Wlk.aloadN (pc' := 1) (v := (.ref a1)) dc_prog_9_method_4_code_0 rfl rfl rfl ?_
  refine Wlk.getF (pc' := 4) (v := (.int p2)) dc_prog_9_method_4_code_1 (hw _ (List.mem_of_getElem? (i := 37) rfl)) Via.refl F1 rfl ?_
  refine Wlk.iconst (pc' := 5) (v := (5 : Int32)) dc_prog_9_method_4_code_4 rfl rfl ?_
  refine Wlk.ic_ (pcT := 12) (pcF := 8) dc_prog_9_method_4_code_5 (by decide) (by decide) rfl (fun (hc11 : p2 < (5 : Int32)) => ?_) (fun (hc11 : ¬ (p2 < (5 : Int32))) => ?_)
  · skip
    refine Wlk.iconst (pc' := 13) (v := (0 : Int32)) dc_prog_9_method_4_code_12 rfl rfl ?_
    refine Wlk.ireturnN (t := .boolean) dc_prog_9_method_4_code_13 rfl (by simp) (by decide) (by decide) ?_
    exact ⟨by unfold downF; first | (rw [if_pos (by assumption)]; rfl) | (rw [if_neg (by assumption)]; rfl), rfl⟩
  · skip
    refine Wlk.iconst (pc' := 9) (v := (1 : Int32)) dc_prog_9_method_4_code_8 rfl rfl ?_
    refine Wlk.goto (pc' := 13) dc_prog_9_method_4_code_9 (by decide) (by decide) ?_
    refine Wlk.ireturnN (t := .boolean) dc_prog_9_method_4_code_13 rfl (by simp) (by decide) (by decide) ?_
    exact ⟨by unfold downF; first | (rw [if_pos (by assumption)]; rfl) | (rw [if_neg (by assumption)]; rfl), rfl⟩

set_option maxRecDepth 65536 in
set_option maxHeartbeats 40000000 in
theorem rm_law {l : Launch} {Z : State} {a0 : Array Value} (hw : ∀ d ∈ tables_1, d.before a0 Z = true) (ws : List Jvm.Cond) (p1 p2 : Int32) (h0 : Heap) (zc : Int32) (O2 : Sta Z Z.heap "java/lang/String" "COMPACT_STRINGS" "Z" (.int zc)) (P3 : ¬ zc = 0) :
    Met l Z x code maxLocals ret false ws room_1 #[(.int p1), (.int p2)] h0 (false, [], []) (fun v h J => v = some (.int 1)) := by
  refine Met.of_goes (Ls := #[.val (.int p1), .val (.int p2), .unset, .unset, .unset, .unset, .unset, .unset]) (by first | exact plainFor_of_name (by first | (simp [plainName, overriddenIn]; done) | decide +kernel) | decide +kernel) (fun m => by first | (simp [entryFrame, mkF, argsToLocals, Value.category, maxLocals]; done) | rfl) rfl (fun G hGl => ?_)
  subst hGl
  have hws : ∀ d ∈ StrChars.Road.words, d.before a0 Z = true := fun d hd => hw d ((by decide +kernel : ∀ d ∈ StrChars.Road.words, d ∈ tables_1) d hd)
  refine Wlk.iconst (pc' := 1) (v := (1 : Int32)) at_0 rfl rfl ?_
  refine Wlk.newP (pc' := 3) (ty := .char) (cap := 1) at_1 rfl (hw _ (List.mem_of_getElem? (i := 0) rfl)) (by decide) (by decide) (by decide) (by decide) (by decide) rfl (fun b12 h13 kc14 le15 g16 E17 A18 => ?_)
  have A19 : Arv Z h13 b12 kc14 .char (1 : Int32) [.int 0] (.int 0) := A18.pad (pad_rep [] (.int 0) 1)
  refine Wlk.dup (pc' := 4) at_3 rfl rfl ?_
  refine Wlk.iconst (pc' := 5) (v := (0 : Int32)) at_4 rfl rfl ?_
  refine Wlk.iloadN (pc' := 6) (v := p2) at_5 rfl rfl ?_
  refine Wlk.sipush (pc' := 9) (v := (255 : Int32)) at_6 (by decide) rfl ?_
  refine Wlk.iand (pc' := 10) at_9 rfl ?_
  refine Wlk.i2c (pc' := 11) at_10 rfl ?_
  refine Wlk.castore (pc' := 12) (i := 0) at_11 A19 ⟨by decide, by decide⟩ rfl (Nat.le_of_ble_eq_true rfl) g16 rfl (fun h20 W21 A22 => ?_)
  have A23 : Arv Z h20 b12 kc14 .char (1 : Int32) [(.int (nar .char (((p2 &&& (255 : Int32))).toUInt32.toUInt16.toUInt32.toInt32)))] (.int 0) := A22
  refine Wlk.astoreN (pc' := 13) (Ls' := #[.val (.int p1), .val (.int p2), .val (.ref b12), .unset, .unset, .unset, .unset, .unset]) at_12 rfl rfl rfl rfl ?_
  refine Wlk.newO (pc' := 16) (C := "java/lang/String") at_13 (hw _ (List.mem_of_getElem? (i := 1) rfl)) (hw _ (List.mem_of_getElem? (i := 2) rfl)) (hw _ (List.mem_of_getElem? (i := 3) rfl)) (by decide) (by decide) rfl (fun b24 h25 le26 g27 E28 A29 D30 => ?_)
  have F31 : Fld Z h25 b24 "java/lang/String" "coder" "B" (.int (0 : Int32)) := D30 (Or.inr (hw _ (List.mem_of_getElem? (i := 27) rfl))) (ty := .byte) (by decide)
  have F32 : Fld Z h25 b24 "java/lang/String" "value" "[B" .null := D30 (Or.inr (hw _ (List.mem_of_getElem? (i := 29) rfl))) (ty := (.array .byte)) (by decide)
  refine Wlk.dup (pc' := 17) at_16 rfl rfl ?_
  refine Wlk.aloadN (pc' := 18) (v := (.ref b12)) at_17 rfl rfl rfl ?_
  have c33 := (A23.ext E28)
  have hp : ∀ c ∈ [(nar .char (((p2 &&& (255 : Int32))).toUInt32.toUInt16.toUInt32.toInt32))], ¬ c < 0 ∧ ¬ (255 : Int32) < c := by
    intro c hc
    simp only [List.mem_cons, List.not_mem_nil, or_false] at hc
    subst hc
    simp only [nar, i2c_mask]
    exact own_255 _
  refine Wlk.callCB (pc' := 21) (z := (⟨"java/lang/String", "<init>", "([C)V"⟩ : MethodName)) (a := b24) (argsL := [(.ref b12)]) (st := [(.ref b24)]) (W := 1) (ck := 1) (cs := 1) (QQ := StrChars.Road.QV Z b24 (1 : Int32) [((nar .char (((p2 &&& (255 : Int32))).toUInt32.toUInt16.toUInt32.toInt32))).toInt8.toInt32] h25 Z.heap.size) at_18 (hw _ (List.mem_of_getElem? (i := 4) rfl)) (hw _ (List.mem_of_getElem? (i := 5) rfl)) (hw _ (List.mem_of_getElem? (i := 6) rfl)) (by decide) rfl pd_0 rfl rfl (fun s hZ hE => StrChars.Road.backV (W := 1) hZ hws (kI := 4) (hw _ (List.mem_of_getElem? (i := 2) rfl)) (cs := [(nar .char (((p2 &&& (255 : Int32))).toUInt32.toUInt16.toUInt32.toInt32))]) (n := 1) g27 hE.1 A29 F32 F31 c33 (O2.ext hE) P3 rfl rfl (by decide) (by decide) hp rfl (by decide) (by decide)) (fun v h' L hE q => ⟨q.2.1, ext_keep hE g27 q.2.2.1, q.2.2.1.1⟩) (by decide) (by decide) rfl rfl (fun v34 h35 L36 q37 => ?_)
  obtain ⟨rfl, N38, K39, E40, C41, t42, kb43, g44, g45, g46, V47, A48⟩ := q37
  show Wlk _ _ _ _ _ _ _ _ _ h35 3 6 21 #[.val (.int p1), .val (.int p2), .val (.ref b12), .unset, .unset, .unset, .unset, .unset] [(.ref b24)]
  refine Wlk.astoreN (pc' := 22) (Ls' := #[.val (.int p1), .val (.int p2), .val (.ref b12), .val (.ref b24), .unset, .unset, .unset, .unset]) at_21 rfl rfl rfl rfl ?_
  refine Wlk.newO (pc' := 25) (C := "com/example/least1/least1/RouteMetrics$Waiting") at_22 (hw _ (List.mem_of_getElem? (i := 30) rfl)) (hw _ (List.mem_of_getElem? (i := 31) rfl)) (hw _ (List.mem_of_getElem? (i := 32) rfl)) (by decide) (by decide) rfl (fun b49 h50 le51 g52 E53 A54 D55 => ?_)
  have F56 : Fld Z h50 b49 "com/example/least1/least1/RouteMetrics$Waiting" "failures" "I" (.int (0 : Int32)) := D55 (Or.inr (hw _ (List.mem_of_getElem? (i := 38) rfl))) (ty := .int) (by decide)
  have F57 : Fld Z h50 b49 "com/example/least1/least1/RouteMetrics$Waiting" "answer" "Ljava/lang/String;" .null := D55 (Or.inr (hw _ (List.mem_of_getElem? (i := 40) rfl))) (ty := (.object "java/lang/String")) (by decide)
  refine Wlk.dup (pc' := 26) at_25 rfl rfl ?_
  refine Wlk.iloadN (pc' := 27) (v := p1) at_26 rfl rfl ?_
  refine Wlk.aloadN (pc' := 28) (v := (.ref b24)) at_27 rfl rfl rfl ?_
  refine Wlk.callC (pc' := 31) (a := b49) (z := (⟨"com/example/least1/least1/RouteMetrics$Waiting", "<init>", "(ILjava/lang/String;)V"⟩ : MethodName)) (argsL := [(.int p1), (.ref b24)]) (st := [(.ref b49)]) (W := 1) at_28 (hw _ (List.mem_of_getElem? (i := 33) rfl)) (hw _ (List.mem_of_getElem? (i := 34) rfl)) (hw _ (List.mem_of_getElem? (i := 32) rfl)) (hw _ (List.mem_of_getElem? (i := 35) rfl)) (by decide) rfl pd_1 rfl (rm_init hw b49 p1 b24 _ _ h50 A54 F56 F57 g52) (by decide) rfl (by decide) (by decide) (by decide) rfl rfl (fun v58 h59 J60 q61 => ?_)
  obtain ⟨rfl, K62, E63, F64, F65⟩ := q61
  show Wlk _ _ _ _ _ _ _ _ _ h59 4 8 31 #[.val (.int p1), .val (.int p2), .val (.ref b12), .val (.ref b24), .unset, .unset, .unset, .unset] [(.ref b49)]
  refine Wlk.astore (pc' := 33) (Ls' := #[.val (.int p1), .val (.int p2), .val (.ref b12), .val (.ref b24), .val (.ref b49), .unset, .unset, .unset]) at_31 rfl rfl rfl rfl ?_
  refine Wlk.newO (pc' := 36) (C := "com/example/least1/least1/RouteMetrics$Waiting") at_33 (hw _ (List.mem_of_getElem? (i := 30) rfl)) (hw _ (List.mem_of_getElem? (i := 31) rfl)) (hw _ (List.mem_of_getElem? (i := 32) rfl)) (by decide) (by decide) rfl (fun b66 h67 le68 g69 E70 A71 D72 => ?_)
  have F73 : Fld Z h67 b66 "com/example/least1/least1/RouteMetrics$Waiting" "failures" "I" (.int (0 : Int32)) := D72 (Or.inr (hw _ (List.mem_of_getElem? (i := 38) rfl))) (ty := .int) (by decide)
  have F74 : Fld Z h67 b66 "com/example/least1/least1/RouteMetrics$Waiting" "answer" "Ljava/lang/String;" .null := D72 (Or.inr (hw _ (List.mem_of_getElem? (i := 40) rfl))) (ty := (.object "java/lang/String")) (by decide)
  refine Wlk.dup (pc' := 37) at_36 rfl rfl ?_
  refine Wlk.iconst (pc' := 38) (v := (4 : Int32)) at_37 rfl rfl ?_
  refine Wlk.aloadN (pc' := 39) (v := (.ref b24)) at_38 rfl rfl rfl ?_
  refine Wlk.callC (pc' := 42) (a := b66) (z := (⟨"com/example/least1/least1/RouteMetrics$Waiting", "<init>", "(ILjava/lang/String;)V"⟩ : MethodName)) (argsL := [(.int (4 : Int32)), (.ref b24)]) (st := [(.ref b66)]) (W := 1) at_39 (hw _ (List.mem_of_getElem? (i := 33) rfl)) (hw _ (List.mem_of_getElem? (i := 34) rfl)) (hw _ (List.mem_of_getElem? (i := 32) rfl)) (hw _ (List.mem_of_getElem? (i := 35) rfl)) (by decide) rfl pd_1 rfl (rm_init hw b66 (4 : Int32) b24 _ _ h67 A71 F73 F74 g69) (by decide) rfl (by decide) (by decide) (by decide) rfl rfl (fun v75 h76 J77 q78 => ?_)
  obtain ⟨rfl, K79, E80, F81, F82⟩ := q78
  show Wlk _ _ _ _ _ _ _ _ _ h76 5 10 42 #[.val (.int p1), .val (.int p2), .val (.ref b12), .val (.ref b24), .val (.ref b49), .unset, .unset, .unset] [(.ref b66)]
  refine Wlk.astore (pc' := 44) (Ls' := #[.val (.int p1), .val (.int p2), .val (.ref b12), .val (.ref b24), .val (.ref b49), .val (.ref b66), .unset, .unset]) at_42 rfl rfl rfl rfl ?_
  refine Wlk.newO (pc' := 47) (C := "com/example/least1/least1/RouteMetrics$Waiting") at_44 (hw _ (List.mem_of_getElem? (i := 30) rfl)) (hw _ (List.mem_of_getElem? (i := 31) rfl)) (hw _ (List.mem_of_getElem? (i := 32) rfl)) (by decide) (by decide) rfl (fun b83 h84 le85 g86 E87 A88 D89 => ?_)
  have F90 : Fld Z h84 b83 "com/example/least1/least1/RouteMetrics$Waiting" "failures" "I" (.int (0 : Int32)) := D89 (Or.inr (hw _ (List.mem_of_getElem? (i := 38) rfl))) (ty := .int) (by decide)
  have F91 : Fld Z h84 b83 "com/example/least1/least1/RouteMetrics$Waiting" "answer" "Ljava/lang/String;" .null := D89 (Or.inr (hw _ (List.mem_of_getElem? (i := 40) rfl))) (ty := (.object "java/lang/String")) (by decide)
  refine Wlk.dup (pc' := 48) at_47 rfl rfl ?_
  refine Wlk.iconst (pc' := 49) (v := (5 : Int32)) at_48 rfl rfl ?_
  refine Wlk.aloadN (pc' := 50) (v := (.ref b24)) at_49 rfl rfl rfl ?_
  refine Wlk.callC (pc' := 53) (a := b83) (z := (⟨"com/example/least1/least1/RouteMetrics$Waiting", "<init>", "(ILjava/lang/String;)V"⟩ : MethodName)) (argsL := [(.int (5 : Int32)), (.ref b24)]) (st := [(.ref b83)]) (W := 1) at_50 (hw _ (List.mem_of_getElem? (i := 33) rfl)) (hw _ (List.mem_of_getElem? (i := 34) rfl)) (hw _ (List.mem_of_getElem? (i := 32) rfl)) (hw _ (List.mem_of_getElem? (i := 35) rfl)) (by decide) rfl pd_1 rfl (rm_init hw b83 (5 : Int32) b24 _ _ h84 A88 F90 F91 g86) (by decide) rfl (by decide) (by decide) (by decide) rfl rfl (fun v92 h93 J94 q95 => ?_)
  obtain ⟨rfl, K96, E97, F98, F99⟩ := q95
  show Wlk _ _ _ _ _ _ _ _ _ h93 6 12 53 #[.val (.int p1), .val (.int p2), .val (.ref b12), .val (.ref b24), .val (.ref b49), .val (.ref b66), .unset, .unset] [(.ref b83)]
  refine Wlk.astore (pc' := 55) (Ls' := #[.val (.int p1), .val (.int p2), .val (.ref b12), .val (.ref b24), .val (.ref b49), .val (.ref b66), .val (.ref b83), .unset]) at_53 rfl rfl rfl rfl ?_
  refine Wlk.iloadN (pc' := 56) (v := p1) at_55 rfl rfl ?_
  refine Wlk.i2l (pc' := 57) at_56 rfl ?_
  refine Wlk.ldc2J (pc' := 60) (v := (5 : Int64)) at_57 (hw _ (List.mem_of_getElem? (i := 41) rfl)) rfl ?_
  refine Wlk.lsub (pc' := 61) at_60 rfl ?_
  refine Wlk.lconst (pc' := 62) (v := (0 : Int64)) at_61 (by decide) rfl ?_
  refine Wlk.lcmp (pc' := 63) at_62 rfl ?_
  refine Wlk.if_ (pcT := 70) (pcF := 66) at_63 (by decide) (by decide) rfl (fun (hc100 : (lcmpW (((p1).toInt64) - (5 : Int64)) (0 : Int64)) < (0 : Int32)) => ?_) (fun (hc100 : ¬ ((lcmpW (((p1).toInt64) - (5 : Int64)) (0 : Int64)) < (0 : Int32))) => ?_)
  · skip
    refine Wlk.iconst (pc' := 71) (v := (0 : Int32)) at_70 rfl rfl ?_
    refine Wlk.istore (pc' := 73) (Ls' := #[.val (.int p1), .val (.int p2), .val (.ref b12), .val (.ref b24), .val (.ref b49), .val (.ref b66), .val (.ref b83), .val (.int (0 : Int32))]) at_71 rfl rfl rfl ?_
    refine Wlk.aload (pc' := 75) (v := (.ref b49)) at_73 rfl rfl rfl ?_
    have c101 := ((((F64.ext E70).keep K79 (ninS (Nat.ne_of_lt (Nat.lt_of_lt_of_le A54.lt (Nat.le_trans K62.1 le68))) nin0)).ext E87).keep K96 (ninS (Nat.ne_of_lt (Nat.lt_of_lt_of_le A54.lt (Nat.le_trans (Nat.le_trans (Nat.le_trans K62.1 E70.1) K79.1) le85))) nin0))
    have c106 := ((((E63.ext E70).keep K79).ext E87).keep K96)
    refine Wlk.callV (pc' := 78) (a := b49) (x := (⟨"com/example/least1/least1/RouteMetrics$Waiting", "isDown", "()Z"⟩ : MethodName)) (C := "com/example/least1/least1/RouteMetrics$Waiting") (z := (⟨"com/example/least1/least1/RouteMetrics$Waiting", "isDown", "()Z"⟩ : MethodName)) (argsL := []) (st := []) (W := 0) at_75 (hw _ (List.mem_of_getElem? (i := 42) rfl)) (hw _ (List.mem_of_getElem? (i := 43) rfl)) (fun s q => notFace_of_selects (args := #[]) (mvT q (hw _ (List.mem_of_getElem? (i := 45) rfl)))) (hw _ (List.mem_of_getElem? (i := 45) rfl)) (hw _ (List.mem_of_getElem? (i := 44) rfl)) c106 (hw _ (List.mem_of_getElem? (i := 32) rfl)) (hw _ (List.mem_of_getElem? (i := 46) rfl)) (by decide) pd_2 rfl (rm_down hw b49 p1 h93 c101) (by decide) rfl (by decide) (by decide) (by decide) rfl rfl (fun v102 h103 J104 q105 => ?_)
    obtain ⟨rfl, rfl⟩ := q105
    show Wlk _ _ _ _ _ _ _ _ _ h93 6 12 78 #[.val (.int p1), .val (.int p2), .val (.ref b12), .val (.ref b24), .val (.ref b49), .val (.ref b66), .val (.ref b83), .val (.int (0 : Int32))] [(.int (downF p1))]
    refine Wlk.iload (pc' := 80) (v := (0 : Int32)) at_78 rfl rfl ?_
    refine Wlk.icF (pc' := 83) at_80 (show (downF p1) = (0 : Int32) from (by simp only [downF]; exact if_pos ((own_down _).mp hc100))) rfl ?_
    refine Wlk.aload (pc' := 85) (v := (.ref b66)) at_83 rfl rfl rfl ?_
    have c107 := ((F81.ext E87).keep K96 (ninS (Nat.ne_of_lt (Nat.lt_of_lt_of_le A71.lt (Nat.le_trans K79.1 le85))) nin0))
    have c112 := ((E80.ext E87).keep K96)
    refine Wlk.callV (pc' := 88) (a := b66) (x := (⟨"com/example/least1/least1/RouteMetrics$Waiting", "isDown", "()Z"⟩ : MethodName)) (C := "com/example/least1/least1/RouteMetrics$Waiting") (z := (⟨"com/example/least1/least1/RouteMetrics$Waiting", "isDown", "()Z"⟩ : MethodName)) (argsL := []) (st := []) (W := 0) at_85 (hw _ (List.mem_of_getElem? (i := 42) rfl)) (hw _ (List.mem_of_getElem? (i := 43) rfl)) (fun s q => notFace_of_selects (args := #[]) (mvT q (hw _ (List.mem_of_getElem? (i := 45) rfl)))) (hw _ (List.mem_of_getElem? (i := 45) rfl)) (hw _ (List.mem_of_getElem? (i := 44) rfl)) c112 (hw _ (List.mem_of_getElem? (i := 32) rfl)) (hw _ (List.mem_of_getElem? (i := 46) rfl)) (by decide) pd_2 rfl (rm_down hw b66 (4 : Int32) h93 c107) (by decide) rfl (by decide) (by decide) (by decide) rfl rfl (fun v108 h109 J110 q111 => ?_)
    obtain ⟨rfl, rfl⟩ := q111
    show Wlk _ _ _ _ _ _ _ _ _ h93 6 12 88 #[.val (.int p1), .val (.int p2), .val (.ref b12), .val (.ref b24), .val (.ref b49), .val (.ref b66), .val (.ref b83), .val (.int (0 : Int32))] [(.int (downF (4 : Int32)))]
    refine Wlk.ifF (pc' := 91) at_88 (show (downF (4 : Int32)) = (0 : Int32) from (by decide)) rfl ?_
    refine Wlk.aload (pc' := 93) (v := (.ref b83)) at_91 rfl rfl rfl ?_
    refine Wlk.callV (pc' := 96) (a := b83) (x := (⟨"com/example/least1/least1/RouteMetrics$Waiting", "isDown", "()Z"⟩ : MethodName)) (C := "com/example/least1/least1/RouteMetrics$Waiting") (z := (⟨"com/example/least1/least1/RouteMetrics$Waiting", "isDown", "()Z"⟩ : MethodName)) (argsL := []) (st := []) (W := 0) at_93 (hw _ (List.mem_of_getElem? (i := 42) rfl)) (hw _ (List.mem_of_getElem? (i := 43) rfl)) (fun s q => notFace_of_selects (args := #[]) (mvT q (hw _ (List.mem_of_getElem? (i := 45) rfl)))) (hw _ (List.mem_of_getElem? (i := 45) rfl)) (hw _ (List.mem_of_getElem? (i := 44) rfl)) E97 (hw _ (List.mem_of_getElem? (i := 32) rfl)) (hw _ (List.mem_of_getElem? (i := 46) rfl)) (by decide) pd_2 rfl (rm_down hw b83 (5 : Int32) h93 F98) (by decide) rfl (by decide) (by decide) (by decide) rfl rfl (fun v113 h114 J115 q116 => ?_)
    obtain ⟨rfl, rfl⟩ := q116
    show Wlk _ _ _ _ _ _ _ _ _ h93 6 12 96 #[.val (.int p1), .val (.int p2), .val (.ref b12), .val (.ref b24), .val (.ref b49), .val (.ref b66), .val (.ref b83), .val (.int (0 : Int32))] [(.int (downF (5 : Int32)))]
    refine Wlk.ifF (pc' := 99) at_96 (show ¬ ((downF (5 : Int32)) = (0 : Int32)) from (by decide)) rfl ?_
    refine Wlk.iconst (pc' := 100) (v := (1 : Int32)) at_99 rfl rfl ?_
    refine Wlk.goto (pc' := 104) at_100 (by decide) (by decide) ?_
    refine Wlk.ireturnN (t := .boolean) at_104 rfl (by simp) (by decide) (by decide) ?_
    exact rfl
  · skip
    refine Wlk.iconst (pc' := 67) (v := (1 : Int32)) at_66 rfl rfl ?_
    refine Wlk.goto (pc' := 71) at_67 (by decide) (by decide) ?_
    refine Wlk.istore (pc' := 73) (Ls' := #[.val (.int p1), .val (.int p2), .val (.ref b12), .val (.ref b24), .val (.ref b49), .val (.ref b66), .val (.ref b83), .val (.int (1 : Int32))]) at_71 rfl rfl rfl ?_
    refine Wlk.aload (pc' := 75) (v := (.ref b49)) at_73 rfl rfl rfl ?_
    have c117 := ((((F64.ext E70).keep K79 (ninS (Nat.ne_of_lt (Nat.lt_of_lt_of_le A54.lt (Nat.le_trans K62.1 le68))) nin0)).ext E87).keep K96 (ninS (Nat.ne_of_lt (Nat.lt_of_lt_of_le A54.lt (Nat.le_trans (Nat.le_trans (Nat.le_trans K62.1 E70.1) K79.1) le85))) nin0))
    have c122 := ((((E63.ext E70).keep K79).ext E87).keep K96)
    refine Wlk.callV (pc' := 78) (a := b49) (x := (⟨"com/example/least1/least1/RouteMetrics$Waiting", "isDown", "()Z"⟩ : MethodName)) (C := "com/example/least1/least1/RouteMetrics$Waiting") (z := (⟨"com/example/least1/least1/RouteMetrics$Waiting", "isDown", "()Z"⟩ : MethodName)) (argsL := []) (st := []) (W := 0) at_75 (hw _ (List.mem_of_getElem? (i := 42) rfl)) (hw _ (List.mem_of_getElem? (i := 43) rfl)) (fun s q => notFace_of_selects (args := #[]) (mvT q (hw _ (List.mem_of_getElem? (i := 45) rfl)))) (hw _ (List.mem_of_getElem? (i := 45) rfl)) (hw _ (List.mem_of_getElem? (i := 44) rfl)) c122 (hw _ (List.mem_of_getElem? (i := 32) rfl)) (hw _ (List.mem_of_getElem? (i := 46) rfl)) (by decide) pd_2 rfl (rm_down hw b49 p1 h93 c117) (by decide) rfl (by decide) (by decide) (by decide) rfl rfl (fun v118 h119 J120 q121 => ?_)
    obtain ⟨rfl, rfl⟩ := q121
    show Wlk _ _ _ _ _ _ _ _ _ h93 6 12 78 #[.val (.int p1), .val (.int p2), .val (.ref b12), .val (.ref b24), .val (.ref b49), .val (.ref b66), .val (.ref b83), .val (.int (1 : Int32))] [(.int (downF p1))]
    refine Wlk.iload (pc' := 80) (v := (1 : Int32)) at_78 rfl rfl ?_
    refine Wlk.icF (pc' := 83) at_80 (show (downF p1) = (1 : Int32) from (by simp only [downF]; exact if_neg (fun u => hc100 ((own_down _).mpr u)))) rfl ?_
    refine Wlk.aload (pc' := 85) (v := (.ref b66)) at_83 rfl rfl rfl ?_
    have c123 := ((F81.ext E87).keep K96 (ninS (Nat.ne_of_lt (Nat.lt_of_lt_of_le A71.lt (Nat.le_trans K79.1 le85))) nin0))
    have c128 := ((E80.ext E87).keep K96)
    refine Wlk.callV (pc' := 88) (a := b66) (x := (⟨"com/example/least1/least1/RouteMetrics$Waiting", "isDown", "()Z"⟩ : MethodName)) (C := "com/example/least1/least1/RouteMetrics$Waiting") (z := (⟨"com/example/least1/least1/RouteMetrics$Waiting", "isDown", "()Z"⟩ : MethodName)) (argsL := []) (st := []) (W := 0) at_85 (hw _ (List.mem_of_getElem? (i := 42) rfl)) (hw _ (List.mem_of_getElem? (i := 43) rfl)) (fun s q => notFace_of_selects (args := #[]) (mvT q (hw _ (List.mem_of_getElem? (i := 45) rfl)))) (hw _ (List.mem_of_getElem? (i := 45) rfl)) (hw _ (List.mem_of_getElem? (i := 44) rfl)) c128 (hw _ (List.mem_of_getElem? (i := 32) rfl)) (hw _ (List.mem_of_getElem? (i := 46) rfl)) (by decide) pd_2 rfl (rm_down hw b66 (4 : Int32) h93 c123) (by decide) rfl (by decide) (by decide) (by decide) rfl rfl (fun v124 h125 J126 q127 => ?_)
    obtain ⟨rfl, rfl⟩ := q127
    show Wlk _ _ _ _ _ _ _ _ _ h93 6 12 88 #[.val (.int p1), .val (.int p2), .val (.ref b12), .val (.ref b24), .val (.ref b49), .val (.ref b66), .val (.ref b83), .val (.int (1 : Int32))] [(.int (downF (4 : Int32)))]
    refine Wlk.ifF (pc' := 91) at_88 (show (downF (4 : Int32)) = (0 : Int32) from (by decide)) rfl ?_
    refine Wlk.aload (pc' := 93) (v := (.ref b83)) at_91 rfl rfl rfl ?_
    refine Wlk.callV (pc' := 96) (a := b83) (x := (⟨"com/example/least1/least1/RouteMetrics$Waiting", "isDown", "()Z"⟩ : MethodName)) (C := "com/example/least1/least1/RouteMetrics$Waiting") (z := (⟨"com/example/least1/least1/RouteMetrics$Waiting", "isDown", "()Z"⟩ : MethodName)) (argsL := []) (st := []) (W := 0) at_93 (hw _ (List.mem_of_getElem? (i := 42) rfl)) (hw _ (List.mem_of_getElem? (i := 43) rfl)) (fun s q => notFace_of_selects (args := #[]) (mvT q (hw _ (List.mem_of_getElem? (i := 45) rfl)))) (hw _ (List.mem_of_getElem? (i := 45) rfl)) (hw _ (List.mem_of_getElem? (i := 44) rfl)) E97 (hw _ (List.mem_of_getElem? (i := 32) rfl)) (hw _ (List.mem_of_getElem? (i := 46) rfl)) (by decide) pd_2 rfl (rm_down hw b83 (5 : Int32) h93 F98) (by decide) rfl (by decide) (by decide) (by decide) rfl rfl (fun v129 h130 J131 q132 => ?_)
    obtain ⟨rfl, rfl⟩ := q132
    show Wlk _ _ _ _ _ _ _ _ _ h93 6 12 96 #[.val (.int p1), .val (.int p2), .val (.ref b12), .val (.ref b24), .val (.ref b49), .val (.ref b66), .val (.ref b83), .val (.int (1 : Int32))] [(.int (downF (5 : Int32)))]
    refine Wlk.ifF (pc' := 99) at_96 (show ¬ ((downF (5 : Int32)) = (0 : Int32)) from (by decide)) rfl ?_
    refine Wlk.iconst (pc' := 100) (v := (1 : Int32)) at_99 rfl rfl ?_
    refine Wlk.goto (pc' := 104) at_100 (by decide) (by decide) ?_
    refine Wlk.ireturnN (t := .boolean) at_104 rfl (by simp) (by decide) (by decide) ?_
    exact rfl

set_option maxRecDepth 65536 in
set_option maxHeartbeats 40000000 in
theorem comes_1 {Post : Tables → Env → Array Value → State → Outcome → State → Prop} (hpost : ∀ tb e args s v u, (limb_1_1.after args s (.returned v) u = true ∧ limb_1_2.after args s (.returned v) u = true ∧ True) → FrameEnd s (.returned v) u (Jvm.fieldLocs frame_1_writes args s ++ Jvm.arrayLocs frame_1_arrays args s ++ Jvm.staticLocs frame_1_statics s) 24 128 → Post tb e args s (.returned v) u) :
    ArmFor flags0 classFile x code maxLocals ret World_1 tables_1 room_1 Calls_1 rest_1 Pre_1 Post := by
  intro l hfl _ _ p e ha hc hk s m args below hf hA hF happ hP
  obtain ⟨hcalls, hrest, hpre⟩ := hP
  obtain ⟨-, -, -, hnamed, -, -, -, hat⟩ := (Spec.applies_iff hf).mp happ
  obtain ⟨hg, hn⟩ := and_e (Cond.before_iff.mp (show (Jvm.Cond.and given_1 narrow_1).before args s = true from hpre))
  obtain ⟨gc, gr0⟩ := and_e hg
  obtain ⟨ga0, gr1⟩ := and_e gr0
  obtain ⟨w0, w1, rfl⟩ : ∃ w0 w1 : Value, args = #[w0, w1] := by
    have hs : args.size = 2 := by simpa [Cond.value, given_1] using gc
    obtain ⟨L⟩ := args
    match L, hs with
    | [w0, w1], _ => exact ⟨w0, w1, rfl⟩
  have hw := fun d (hd : d ∈ tables_1) => atoms_spec (ws := Jvm.Cond.code x code maxLocals ret :: tables_1) hat d (List.mem_cons_of_mem _ hd)
  have hfit : Fit s := fun {y c} hc i hi => by
    obtain ⟨ha, rfl⟩ := Array.getElem?_eq_some_iff.mp hc
    have q := List.all_eq_true.mp ((Array.all_eq_true_iff_forall_mem.mp hF) _ (Array.getElem_mem ha)) i (List.mem_range.mpr hi)
    simpa [Array.getElem?_eq_getElem hi] using q
  obtain ⟨hsets, hown0⟩ := atoms_of _ (rest_1_c_eq ▸ (show rest_1_c.before _ s = true from hrest))
  obtain ⟨i0, ei0⟩ := is_v ga0
  obtain rfl : w0 = (.int i0) := Option.some.inj ei0
  obtain ⟨i1, ei1⟩ := is_v gr1
  obtain rfl : w1 = (.int i1) := Option.some.inj ei1
  have hs1 := Cond.before_iff.mp (hsets _ (List.mem_of_getElem? (i := 1) rfl))
  obtain ⟨zc, ezc⟩ := is_v hs1
  have O2 : Sta s s.heap "java/lang/String" "COMPACT_STRINGS" "Z" (.int zc) := Sta.start ezc (Or.inl (hsets _ (List.mem_of_getElem? (i := 0) rfl)))
  have P3 : ¬ zc = 0 := fun q => by
    have hn0 := not_v (Cond.before_iff.mp (hsets _ (List.mem_of_getElem? (i := 2) rfl)))
    subst q
    have e1 := eq_i ezc (Term.int_eval (0)) rfl
    rw [e1] at hn0
    cases hn0
  obtain ⟨n, o, h1, h2, h3, v, L, J', rfl, ⟨hQ, N, -, -⟩, hq, hq'⟩ := rm_law (l := l) (Z := s) hw tables_1 i0 i1 s.heap zc O2 P3 p e ha hc hk s m _ below hf ((Spec.applies_iff_loose hf).mp happ).1 ⟨rfl, State.Warmed39.refl s, rfl, ⟨Nat.le_refl _, fun _ _ q => q⟩, nofun⟩ trivial
  obtain rfl := hQ
  refine ⟨n, _, h1, h2, h3, hpost _ _ _ _ _ _ ⟨Cond.after_iff.mpr rfl, Cond.after_iff.mpr (eq_i res_at (Term.int_eval (1)) rfl), trivial⟩ ⟨⟨_, rfl⟩, hq' rfl, (hq.2.2.2.sift fun y hy => Or.inr (N y hy)).mono (by decide) (by decide)⟩⟩
theorem main_1_1 : Claimed_1_1 := comes_1 fun _ _ _ _ _ _ h hF => ⟨h.1, hF⟩
theorem main_1_2 : Claimed_1_2 := comes_1 fun _ _ _ _ _ _ h hF => ⟨h.2.1, hF⟩

end Jvm.Pilot.@@N@@
namespace Jvm.Pilot.@@N@@
open Jvm Jvm.ClassFile Sem Op Lib Jvm.Free Jvm.Stand Jvm.Pilot.@@N@@.Jvm.D
/-! MADE BY PROGRAM (witnessworld.py) out of the Statement's table words and the real class files: 20 classes; the members and pool entries that the words name. The judged class is class 1, her method 1. -/
namespace start1
open Jvm.ClassFile
def u (s : String) : CpInfo := .utf8 (stringToUtf16 s)
/-- a pool by its gaps: so many unusable entries, then the entry; so many at the end -/
def gap : Nat → List CpInfo → List CpInfo
  | 0, r => r
  | n + 1, r => .unusable :: gap n r
def poolList (es : List (Nat × CpInfo)) (last : Nat) : List CpInfo := es.foldr (fun e r => gap e.1 (e.2 :: r)) (gap last [])
def pool (es : List (Nat × CpInfo)) (last : Nat) : Array CpInfo := ⟨poolList es last⟩
def fileOf (pool : Array CpInfo) (this : Nat) (attrs : Array Attribute := #[]) (ms : Array MethodInfo := #[]) (fl : Nat := 33) (sup : Nat := 0) (ifs : Array Nat := #[]) (fds : Array FieldInfo := #[]) : ClassFile where
  minorVersion := 0
  majorVersion := 65
  constantPool := pool
  accessFlags := fl
  thisClass := this
  superClass := sup
  interfaces := ifs
  fields := fds
  methods := ms
  attributes := attrs
def plain (name : String) (sup : Option ClassId) : Class where
  name := name
  kind := .ordinary
  loader := none
  accessFlags := 33
  super := sup
  interfaces := #[]
  cf := none
  fields := #[]
  methods := #[]
  instanceTypes := #[]
  staticTypes := #[]
  resolved := #[]
  callSites := []
  init := .initialized
  statics := none
  mirror := none

def pool0 : Array CpInfo := pool [(5, u "<init>"), (0, u "()V"), (1, .class_ 10), (1, u "java/lang/Object")] 113

def k0c0 : Code := { maxStack := 0, maxLocals := 1, code := object_method_1_code, exceptionTable := #[], attributes := #[] }
def k0m0 : Method := { name := "<init>", desc := "()V", sig := { parameters := [], returnType := none }, accessFlags := 1, code := some k0c0 }
/-- java/lang/Object -/
def k0 : Class := { plain "java/lang/Object" none with
  accessFlags := 33
  interfaces := #[]
  cf := some (fileOf pool0 8 #[] #[{ accessFlags := 1, nameIndex := 5, descriptorIndex := 6, attributes := #[] }] 33 0 #[] #[])
  fields := #[]
  methods := #[k0m0]
  instanceTypes := #[]
  staticTypes := #[]
  resolved := Array.replicate 124 none
  statics := none }

def pool1 : Array CpInfo := pool [(2, .class_ 4), (1, u "java/lang/Object"), (0, u "<init>"), (0, u "()V"), (0, .class_ 8), (0, u "java/lang/String"), (0, .methodref 7 10), (0, .nameAndType 5 11), (0, u "([C)V"), (0, .class_ 13), (0, u "com/example/least1/least1/RouteMetrics$Waiting"), (0, .methodref 12 15), (0, .nameAndType 5 16), (0, u "(ILjava/lang/String;)V"), (0, .long 5), (1, .methodref 12 20), (0, .nameAndType 21 22), (0, u "isDown"), (0, u "()Z"), (0, .class_ 24), (0, u "com/example/least1/least1/WaitingIsDownPinLaw"), (2, u "law"), (0, u "(II)Z")] 9

def k1m0 : Method := { name := "<init>", desc := "()V", sig := { parameters := [], returnType := none }, accessFlags := 2, code := none }
def k1c1 : Code := { maxStack := 5, maxLocals := 8, code := code, exceptionTable := #[], attributes := #[] }
def k1m1 : Method := { name := "law", desc := "(II)Z", sig := { parameters := [.int, .int], returnType := some .boolean }, accessFlags := 9, code := some k1c1 }
/-- com/example/least1/least1/WaitingIsDownPinLaw -/
def k1 : Class := { plain "com/example/least1/least1/WaitingIsDownPinLaw" (some 0) with
  accessFlags := 49
  interfaces := #[]
  cf := some (fileOf pool1 23 #[] #[{ accessFlags := 2, nameIndex := 5, descriptorIndex := 6, attributes := #[] }, { accessFlags := 9, nameIndex := 27, descriptorIndex := 28, attributes := #[] }] 49 2 #[] #[])
  fields := #[]
  methods := #[k1m0, k1m1]
  instanceTypes := #[]
  staticTypes := #[]
  resolved := Array.replicate 38 none
  statics := none }

def pool2 : Array CpInfo := pool [(1, .class_ 2), (0, u "java/io/Serializable"), (0, .class_ 4), (0, u "java/lang/Object")] 2

/-- java/io/Serializable -/
def k2 : Class := { plain "java/io/Serializable" (some 0) with
  accessFlags := 1537
  interfaces := #[]
  cf := some (fileOf pool2 1 #[] #[] 1537 3 #[] #[])
  fields := #[]
  methods := #[]
  instanceTypes := #[]
  staticTypes := #[]
  resolved := Array.replicate 7 none
  statics := none }

def pool3 : Array CpInfo := pool [(1, .class_ 2), (0, u "java/lang/Comparable"), (0, .class_ 4), (0, u "java/lang/Object")] 7

/-- java/lang/Comparable -/
def k3 : Class := { plain "java/lang/Comparable" (some 0) with
  accessFlags := 1537
  interfaces := #[]
  cf := some (fileOf pool3 1 #[] #[] 1537 3 #[] #[])
  fields := #[]
  methods := #[]
  instanceTypes := #[]
  staticTypes := #[]
  resolved := Array.replicate 12 none
  statics := none }

def pool4 : Array CpInfo := pool [(2, .class_ 4), (1, u "java/lang/CharSequence"), (42, .class_ 48), (0, u "java/lang/CharSequence$1CodePointIterator"), (10, .class_ 60), (0, u "java/lang/CharSequence$1CharIterator"), (5, .class_ 67), (0, u "java/lang/Object")] 63

/-- java/lang/CharSequence -/
def k4 : Class := { plain "java/lang/CharSequence" (some 0) with
  accessFlags := 1537
  interfaces := #[]
  cf := some (fileOf pool4 2 #[.nestMembers #[47, 59]] #[] 1537 66 #[] #[])
  fields := #[]
  methods := #[]
  instanceTypes := #[]
  staticTypes := #[]
  resolved := Array.replicate 131 none
  statics := none }

def pool5 : Array CpInfo := pool [(1, .class_ 2), (0, u "java/lang/constant/Constable"), (0, .class_ 4), (0, u "java/lang/Object")] 6

/-- java/lang/constant/Constable -/
def k5 : Class := { plain "java/lang/constant/Constable" (some 0) with
  accessFlags := 1537
  interfaces := #[]
  cf := some (fileOf pool5 1 #[] #[] 1537 3 #[] #[])
  fields := #[]
  methods := #[]
  instanceTypes := #[]
  staticTypes := #[]
  resolved := Array.replicate 11 none
  statics := none }

def pool6 : Array CpInfo := pool [(1, .class_ 2), (0, u "java/lang/constant/ConstantDesc"), (0, .class_ 4), (0, u "java/lang/Object")] 32

/-- java/lang/constant/ConstantDesc -/
def k6 : Class := { plain "java/lang/constant/ConstantDesc" (some 0) with
  accessFlags := 1537
  interfaces := #[]
  cf := some (fileOf pool6 1 #[] #[] 1537 3 #[] #[])
  fields := #[]
  methods := #[]
  instanceTypes := #[]
  staticTypes := #[]
  resolved := Array.replicate 37 none
  statics := none }

def pool7 : Array CpInfo := pool [(1, .methodref 2 3), (0, .class_ 4), (0, .nameAndType 5 6), (0, u "java/lang/Object"), (0, u "<init>"), (0, u "()V"), (2, .fieldref 10 11), (0, .class_ 12), (0, .nameAndType 13 14), (0, u "java/lang/String"), (0, u "value"), (0, u "[B"), (0, .fieldref 10 16), (0, .nameAndType 17 18), (0, u "coder"), (0, u "B"), (2, u "hash"), (0, u "I"), (2, u "hashIsZero"), (0, u "Z"), (0, .methodref 10 28), (0, .nameAndType 5 29), (0, u "([CIILjava/lang/Void;)V"), (8, .fieldref 10 39), (0, .nameAndType 40 26), (0, u "COMPACT_STRINGS"), (1, .class_ 44), (1, u "java/lang/StringUTF16"), (0, u "compress"), (1, .methodref 42 48), (0, .nameAndType 49 50), (0, u "coderFromArrayLen"), (0, u "([BI)B"), (126, .methodref 42 178), (0, .nameAndType 45 179), (0, u "([CII)[B"), (395, .class_ 576), (0, u "java/lang/CharSequence"), (22, u "CASE_INSENSITIVE_ORDER"), (0, u "Ljava/util/Comparator;"), (409, u "([C)V"), (90, u "serialPersistentFields"), (0, u "[Ljava/io/ObjectStreamField;"), (0, .class_ 1104), (0, u "java/lang/String$CaseInsensitiveComparator"), (1, .class_ 1107), (0, u "java/io/Serializable"), (0, .class_ 1109), (0, u "java/lang/Comparable"), (0, .class_ 1111), (0, u "java/lang/constant/Constable"), (0, .class_ 1113), (0, u "java/lang/constant/ConstantDesc"), (2, u "serialVersionUID"), (0, u "J"), (3, u "REPL"), (0, u "C"), (2, u "LATIN1"), (1, u "UTF16")] 323

def k7m0 : Method := { name := "<init>", desc := "()V", sig := { parameters := [], returnType := none }, accessFlags := 1, code := none }
def k7c1 : Code := { maxStack := 5, maxLocals := 2, code := jdk_42_method_3_code, exceptionTable := #[], attributes := #[] }
def k7m1 : Method := { name := "<init>", desc := "([C)V", sig := { parameters := [(.array .char)], returnType := none }, accessFlags := 1, code := some k7c1 }
def k7c2 : Code := { maxStack := 4, maxLocals := 6, code := jdk_42_method_149_code, exceptionTable := #[], attributes := #[] }
def k7m2 : Method := { name := "<init>", desc := "([CIILjava/lang/Void;)V", sig := { parameters := [(.array .char), .int, .int, (.object "java/lang/Void")], returnType := none }, accessFlags := 2, code := some k7c2 }
/-- java/lang/String -/
def k7 : Class := { plain "java/lang/String" (some 0) with
  accessFlags := 49
  interfaces := #[2, 3, 4, 5, 6]
  cf := some (fileOf pool7 10 #[.nestMembers #[1103]] #[{ accessFlags := 1, nameIndex := 5, descriptorIndex := 6, attributes := #[] }, { accessFlags := 1, nameIndex := 5, descriptorIndex := 1010, attributes := #[] }, { accessFlags := 2, nameIndex := 5, descriptorIndex := 29, attributes := #[] }] 49 2 #[1106, 1108, 575, 1110, 1112] #[{ accessFlags := 18, nameIndex := 13, descriptorIndex := 14, attributes := #[] }, { accessFlags := 18, nameIndex := 17, descriptorIndex := 18, attributes := #[] }, { accessFlags := 2, nameIndex := 21, descriptorIndex := 22, attributes := #[] }, { accessFlags := 2, nameIndex := 25, descriptorIndex := 26, attributes := #[] }, { accessFlags := 26, nameIndex := 1116, descriptorIndex := 1117, attributes := #[] }, { accessFlags := 24, nameIndex := 40, descriptorIndex := 26, attributes := #[] }, { accessFlags := 26, nameIndex := 1101, descriptorIndex := 1102, attributes := #[] }, { accessFlags := 26, nameIndex := 1121, descriptorIndex := 1122, attributes := #[] }, { accessFlags := 25, nameIndex := 599, descriptorIndex := 600, attributes := #[] }, { accessFlags := 24, nameIndex := 1125, descriptorIndex := 18, attributes := #[] }, { accessFlags := 24, nameIndex := 1127, descriptorIndex := 18, attributes := #[] }])
  fields := #[{ name := "value", type := (.array .byte), accessFlags := 18, slot := 0, constantValue := 0 }, { name := "coder", type := .byte, accessFlags := 18, slot := 1, constantValue := 0 }, { name := "hash", type := .int, accessFlags := 2, slot := 2, constantValue := 0 }, { name := "hashIsZero", type := .boolean, accessFlags := 2, slot := 3, constantValue := 0 }, { name := "serialVersionUID", type := .long, accessFlags := 26, slot := 0, constantValue := 0 }, { name := "COMPACT_STRINGS", type := .boolean, accessFlags := 24, slot := 1, constantValue := 0 }, { name := "serialPersistentFields", type := (.array (.object "java/io/ObjectStreamField")), accessFlags := 26, slot := 2, constantValue := 0 }, { name := "REPL", type := .char, accessFlags := 26, slot := 3, constantValue := 0 }, { name := "CASE_INSENSITIVE_ORDER", type := (.object "java/util/Comparator"), accessFlags := 25, slot := 4, constantValue := 0 }, { name := "LATIN1", type := .byte, accessFlags := 24, slot := 5, constantValue := 0 }, { name := "UTF16", type := .byte, accessFlags := 24, slot := 6, constantValue := 0 }]
  methods := #[k7m0, k7m1, k7m2]
  instanceTypes := #[(.array .byte), .byte, .int, .boolean]
  staticTypes := #[.long, .boolean, (.array (.object "java/io/ObjectStreamField")), .char, (.object "java/util/Comparator"), .byte, .byte]
  resolved := Array.replicate 1451 none
  statics := some 0 }

def pool8 : Array CpInfo := pool [(6, .class_ 8), (1, u "java/lang/Object"), (0, u "<init>"), (0, u "()V"), (1, .class_ 14), (1, u "java/lang/StringUTF16"), (31, u "$assertionsDisabled"), (0, u "Z"), (13, u "HI_BYTE_SHIFT"), (0, u "I"), (2, u "LO_BYTE_SHIFT"), (49, .methodref 12 116), (0, .nameAndType 117 118), (0, u "compress"), (0, u "([CI[BII)I"), (3, u "([CII)[B"), (138, u "coderFromArrayLen"), (0, u "([BI)B"), (106, .class_ 371), (1, u "java/lang/StringUTF16$LinesSpliterator"), (58, u "MAX_LENGTH"), (196, .class_ 628), (0, u "java/lang/StringUTF16$CodePointsSpliterator"), (0, .class_ 630), (0, u "java/lang/StringUTF16$CharsSpliterator")] 4

def k8m0 : Method := { name := "<init>", desc := "()V", sig := { parameters := [], returnType := none }, accessFlags := 0, code := none }
def k8c1 : Code := { maxStack := 2, maxLocals := 2, code := jdk_52_method_15_code, exceptionTable := #[], attributes := #[] }
def k8m1 : Method := { name := "coderFromArrayLen", desc := "([BI)B", sig := { parameters := [(.array .byte), .int], returnType := some .byte }, accessFlags := 8, code := some k8c1 }
def k8c2 : Code := { maxStack := 5, maxLocals := 6, code := jdk_52_method_16_code, exceptionTable := #[], attributes := #[] }
def k8m2 : Method := { name := "compress", desc := "([CII)[B", sig := { parameters := [(.array .char), .int, .int], returnType := some (.array .byte) }, accessFlags := 9, code := some k8c2 }
def k8c3 : Code := { maxStack := 3, maxLocals := 7, code := jdk_52_method_21_code, exceptionTable := #[], attributes := #[] }
def k8m3 : Method := { name := "compress", desc := "([CI[BII)I", sig := { parameters := [(.array .char), .int, (.array .byte), .int, .int], returnType := some .int }, accessFlags := 9, code := some k8c3 }
/-- java/lang/StringUTF16 -/
def k8 : Class := { plain "java/lang/StringUTF16" (some 0) with
  accessFlags := 48
  interfaces := #[]
  cf := some (fileOf pool8 12 #[.nestMembers #[627, 629, 369]] #[{ accessFlags := 0, nameIndex := 9, descriptorIndex := 10, attributes := #[] }, { accessFlags := 8, nameIndex := 261, descriptorIndex := 262, attributes := #[] }, { accessFlags := 9, nameIndex := 117, descriptorIndex := 122, attributes := #[] }, { accessFlags := 9, nameIndex := 117, descriptorIndex := 118, attributes := #[] }] 48 6 #[] #[{ accessFlags := 26, nameIndex := 61, descriptorIndex := 62, attributes := #[] }, { accessFlags := 26, nameIndex := 65, descriptorIndex := 62, attributes := #[] }, { accessFlags := 24, nameIndex := 430, descriptorIndex := 62, attributes := #[] }, { accessFlags := 4120, nameIndex := 46, descriptorIndex := 47, attributes := #[] }])
  fields := #[{ name := "HI_BYTE_SHIFT", type := .int, accessFlags := 26, slot := 0, constantValue := 0 }, { name := "LO_BYTE_SHIFT", type := .int, accessFlags := 26, slot := 1, constantValue := 0 }, { name := "MAX_LENGTH", type := .int, accessFlags := 24, slot := 2, constantValue := 0 }, { name := "$assertionsDisabled", type := .boolean, accessFlags := 4120, slot := 3, constantValue := 0 }]
  methods := #[k8m0, k8m1, k8m2, k8m3]
  instanceTypes := #[]
  staticTypes := #[.int, .int, .int, .boolean]
  resolved := Array.replicate 635 none
  statics := none }

def pool9 : Array CpInfo := pool [(1, .class_ 2), (0, u "com/example/least1/least1/RouteMetrics"), (0, .methodref 4 5), (0, .class_ 6), (0, .nameAndType 7 8), (0, u "java/lang/Object"), (0, u "<init>"), (0, u "()V"), (0, .fieldref 10 11), (0, .class_ 12), (0, .nameAndType 13 14), (0, u "com/example/least1/least1/RouteMetrics$Waiting"), (0, u "failures"), (0, u "I"), (0, .fieldref 10 16), (0, .nameAndType 17 18), (0, u "answer"), (0, u "Ljava/lang/String;"), (0, u "(ILjava/lang/String;)V"), (4, u "isDown"), (0, u "()Z")] 6

def k9c0 : Code := { maxStack := 2, maxLocals := 3, code := prog_9_method_1_code, exceptionTable := #[], attributes := #[] }
def k9m0 : Method := { name := "<init>", desc := "(ILjava/lang/String;)V", sig := { parameters := [.int, (.object "java/lang/String")], returnType := none }, accessFlags := 0, code := some k9c0 }
def k9c1 : Code := { maxStack := 2, maxLocals := 1, code := prog_9_method_4_code, exceptionTable := #[], attributes := #[] }
def k9m1 : Method := { name := "isDown", desc := "()Z", sig := { parameters := [], returnType := some .boolean }, accessFlags := 0, code := some k9c1 }
/-- com/example/least1/least1/RouteMetrics$Waiting -/
def k9 : Class := { plain "com/example/least1/least1/RouteMetrics$Waiting" (some 0) with
  accessFlags := 32
  interfaces := #[]
  cf := some (fileOf pool9 10 #[.nestHost 1] #[{ accessFlags := 0, nameIndex := 7, descriptorIndex := 19, attributes := #[] }, { accessFlags := 0, nameIndex := 24, descriptorIndex := 25, attributes := #[] }] 32 4 #[] #[{ accessFlags := 18, nameIndex := 13, descriptorIndex := 14, attributes := #[] }, { accessFlags := 18, nameIndex := 17, descriptorIndex := 18, attributes := #[] }])
  fields := #[{ name := "failures", type := .int, accessFlags := 18, slot := 0, constantValue := 0 }, { name := "answer", type := (.object "java/lang/String"), accessFlags := 18, slot := 1, constantValue := 0 }]
  methods := #[k9m0, k9m1]
  instanceTypes := #[.int, (.object "java/lang/String")]
  staticTypes := #[]
  resolved := Array.replicate 32 none
  statics := none }

def pool10 : Array CpInfo := pool [(4, .class_ 6), (1, u "java/lang/Object"), (0, u "<init>"), (0, u "()V"), (5, .class_ 16), (1, u "java/lang/StringLatin1"), (104, u "$assertionsDisabled"), (0, u "Z"), (98, .class_ 223), (1, u "java/lang/StringLatin1$LinesSpliterator"), (166, .class_ 391), (0, u "java/lang/StringLatin1$CharsSpliterator")] 3

def k10m0 : Method := { name := "<init>", desc := "()V", sig := { parameters := [], returnType := none }, accessFlags := 0, code := none }
/-- java/lang/StringLatin1 -/
def k10 : Class := { plain "java/lang/StringLatin1" (some 0) with
  accessFlags := 48
  interfaces := #[]
  cf := some (fileOf pool10 14 #[.nestMembers #[390, 221]] #[{ accessFlags := 0, nameIndex := 7, descriptorIndex := 8, attributes := #[] }] 48 4 #[] #[{ accessFlags := 4120, nameIndex := 121, descriptorIndex := 122, attributes := #[] }])
  fields := #[{ name := "$assertionsDisabled", type := .boolean, accessFlags := 4120, slot := 0, constantValue := 0 }]
  methods := #[k10m0]
  instanceTypes := #[]
  staticTypes := #[.boolean]
  resolved := Array.replicate 395 none
  statics := none }

def pool11 : Array CpInfo := pool [(2, .class_ 4), (1, u "java/lang/Object"), (0, u "<init>"), (0, u "()V"), (17, .class_ 26), (1, u "jdk/internal/util/Preconditions"), (28, .class_ 56), (0, u "jdk/internal/util/Preconditions$4"), (57, .class_ 115), (0, u "jdk/internal/util/Preconditions$1"), (7, u "SIOOBE_FORMATTER"), (0, u "Ljava/util/function/BiFunction;"), (0, .class_ 126), (0, u "jdk/internal/util/Preconditions$2"), (3, u "AIOOBE_FORMATTER"), (0, .class_ 132), (0, u "jdk/internal/util/Preconditions$3"), (3, u "IOOBE_FORMATTER")] 57

def k11m0 : Method := { name := "<init>", desc := "()V", sig := { parameters := [], returnType := none }, accessFlags := 1, code := none }
/-- jdk/internal/util/Preconditions -/
def k11 : Class := { plain "jdk/internal/util/Preconditions" (some 0) with
  accessFlags := 33
  interfaces := #[]
  cf := some (fileOf pool11 24 #[.nestMembers #[55, 131, 125, 114]] #[{ accessFlags := 1, nameIndex := 5, descriptorIndex := 6, attributes := #[] }] 33 2 #[] #[{ accessFlags := 25, nameIndex := 123, descriptorIndex := 124, attributes := #[] }, { accessFlags := 25, nameIndex := 130, descriptorIndex := 124, attributes := #[] }, { accessFlags := 25, nameIndex := 136, descriptorIndex := 124, attributes := #[] }])
  fields := #[{ name := "SIOOBE_FORMATTER", type := (.object "java/util/function/BiFunction"), accessFlags := 25, slot := 0, constantValue := 0 }, { name := "AIOOBE_FORMATTER", type := (.object "java/util/function/BiFunction"), accessFlags := 25, slot := 1, constantValue := 0 }, { name := "IOOBE_FORMATTER", type := (.object "java/util/function/BiFunction"), accessFlags := 25, slot := 2, constantValue := 0 }]
  methods := #[k11m0]
  instanceTypes := #[]
  staticTypes := #[(.object "java/util/function/BiFunction"), (.object "java/util/function/BiFunction"), (.object "java/util/function/BiFunction")]
  resolved := Array.replicate 194 none
  statics := some 1 }

def pool12 : Array CpInfo := pool [(9, u "<init>"), (6, .class_ 18), (1, u "java/lang/Object"), (0, u "()V"), (1, .class_ 23), (1, u "jdk/internal/util/ArraysSupport"), (0, u "LOG2_ARRAY_LONG_INDEX_SCALE"), (0, u "I"), (2, u "U"), (0, u "Ljdk/internal/misc/Unsafe;"), (8, u "BIG_ENDIAN"), (0, u "Z"), (8, u "LOG2_BYTE_BIT_SIZE"), (4, u "LOG2_ARRAY_INT_INDEX_SCALE"), (54, u "JLA"), (0, u "Ljdk/internal/access/JavaLangAccess;"), (11, u "LOG2_ARRAY_BOOLEAN_INDEX_SCALE"), (9, u "LOG2_ARRAY_BYTE_INDEX_SCALE"), (5, u "LOG2_ARRAY_CHAR_INDEX_SCALE"), (5, u "LOG2_ARRAY_SHORT_INDEX_SCALE"), (18, u "LOG2_ARRAY_FLOAT_INDEX_SCALE"), (24, u "LOG2_ARRAY_DOUBLE_INDEX_SCALE"), (89, u "T_BOOLEAN"), (2, u "T_CHAR"), (1, u "T_FLOAT"), (1, u "T_DOUBLE"), (1, u "T_BYTE"), (1, u "T_SHORT"), (1, u "T_INT"), (1, u "T_LONG"), (1, u "SOFT_MAX_ARRAY_LENGTH")] 83

def k12m0 : Method := { name := "<init>", desc := "()V", sig := { parameters := [], returnType := none }, accessFlags := 2, code := none }
/-- jdk/internal/util/ArraysSupport -/
def k12 : Class := { plain "jdk/internal/util/ArraysSupport" (some 0) with
  accessFlags := 33
  interfaces := #[]
  cf := some (fileOf pool12 21 #[] #[{ accessFlags := 2, nameIndex := 9, descriptorIndex := 19, attributes := #[] }] 33 16 #[] #[{ accessFlags := 24, nameIndex := 28, descriptorIndex := 29, attributes := #[] }, { accessFlags := 26, nameIndex := 38, descriptorIndex := 39, attributes := #[] }, { accessFlags := 25, nameIndex := 121, descriptorIndex := 25, attributes := #[] }, { accessFlags := 25, nameIndex := 131, descriptorIndex := 25, attributes := #[] }, { accessFlags := 25, nameIndex := 137, descriptorIndex := 25, attributes := #[] }, { accessFlags := 25, nameIndex := 143, descriptorIndex := 25, attributes := #[] }, { accessFlags := 25, nameIndex := 53, descriptorIndex := 25, attributes := #[] }, { accessFlags := 25, nameIndex := 24, descriptorIndex := 25, attributes := #[] }, { accessFlags := 25, nameIndex := 162, descriptorIndex := 25, attributes := #[] }, { accessFlags := 25, nameIndex := 187, descriptorIndex := 25, attributes := #[] }, { accessFlags := 26, nameIndex := 48, descriptorIndex := 25, attributes := #[] }, { accessFlags := 25, nameIndex := 277, descriptorIndex := 25, attributes := #[] }, { accessFlags := 25, nameIndex := 280, descriptorIndex := 25, attributes := #[] }, { accessFlags := 25, nameIndex := 282, descriptorIndex := 25, attributes := #[] }, { accessFlags := 25, nameIndex := 284, descriptorIndex := 25, attributes := #[] }, { accessFlags := 25, nameIndex := 286, descriptorIndex := 25, attributes := #[] }, { accessFlags := 25, nameIndex := 288, descriptorIndex := 25, attributes := #[] }, { accessFlags := 25, nameIndex := 290, descriptorIndex := 25, attributes := #[] }, { accessFlags := 25, nameIndex := 292, descriptorIndex := 25, attributes := #[] }, { accessFlags := 26, nameIndex := 108, descriptorIndex := 109, attributes := #[] }, { accessFlags := 25, nameIndex := 294, descriptorIndex := 25, attributes := #[] }])
  fields := #[{ name := "U", type := (.object "jdk/internal/misc/Unsafe"), accessFlags := 24, slot := 0, constantValue := 0 }, { name := "BIG_ENDIAN", type := .boolean, accessFlags := 26, slot := 1, constantValue := 0 }, { name := "LOG2_ARRAY_BOOLEAN_INDEX_SCALE", type := .int, accessFlags := 25, slot := 2, constantValue := 0 }, { name := "LOG2_ARRAY_BYTE_INDEX_SCALE", type := .int, accessFlags := 25, slot := 3, constantValue := 0 }, { name := "LOG2_ARRAY_CHAR_INDEX_SCALE", type := .int, accessFlags := 25, slot := 4, constantValue := 0 }, { name := "LOG2_ARRAY_SHORT_INDEX_SCALE", type := .int, accessFlags := 25, slot := 5, constantValue := 0 }, { name := "LOG2_ARRAY_INT_INDEX_SCALE", type := .int, accessFlags := 25, slot := 6, constantValue := 0 }, { name := "LOG2_ARRAY_LONG_INDEX_SCALE", type := .int, accessFlags := 25, slot := 7, constantValue := 0 }, { name := "LOG2_ARRAY_FLOAT_INDEX_SCALE", type := .int, accessFlags := 25, slot := 8, constantValue := 0 }, { name := "LOG2_ARRAY_DOUBLE_INDEX_SCALE", type := .int, accessFlags := 25, slot := 9, constantValue := 0 }, { name := "LOG2_BYTE_BIT_SIZE", type := .int, accessFlags := 26, slot := 10, constantValue := 0 }, { name := "T_BOOLEAN", type := .int, accessFlags := 25, slot := 11, constantValue := 0 }, { name := "T_CHAR", type := .int, accessFlags := 25, slot := 12, constantValue := 0 }, { name := "T_FLOAT", type := .int, accessFlags := 25, slot := 13, constantValue := 0 }, { name := "T_DOUBLE", type := .int, accessFlags := 25, slot := 14, constantValue := 0 }, { name := "T_BYTE", type := .int, accessFlags := 25, slot := 15, constantValue := 0 }, { name := "T_SHORT", type := .int, accessFlags := 25, slot := 16, constantValue := 0 }, { name := "T_INT", type := .int, accessFlags := 25, slot := 17, constantValue := 0 }, { name := "T_LONG", type := .int, accessFlags := 25, slot := 18, constantValue := 0 }, { name := "JLA", type := (.object "jdk/internal/access/JavaLangAccess"), accessFlags := 26, slot := 19, constantValue := 0 }, { name := "SOFT_MAX_ARRAY_LENGTH", type := .int, accessFlags := 25, slot := 20, constantValue := 0 }]
  methods := #[k12m0]
  instanceTypes := #[]
  staticTypes := #[(.object "jdk/internal/misc/Unsafe"), .boolean, .int, .int, .int, .int, .int, .int, .int, .int, .int, .int, .int, .int, .int, .int, .int, .int, .int, (.object "jdk/internal/access/JavaLangAccess"), .int]
  resolved := Array.replicate 378 none
  statics := none }

def pool13 : Array CpInfo := pool [(1, u "java/lang/Cloneable"), (0, .class_ 1), (0, u "java/lang/Object"), (0, .class_ 3)] 3

/-- java/lang/Cloneable -/
def k13 : Class := { plain "java/lang/Cloneable" (some 0) with
  accessFlags := 1537
  interfaces := #[]
  cf := some (fileOf pool13 2 #[] #[] 1537 4 #[] #[])
  fields := #[]
  methods := #[]
  instanceTypes := #[]
  staticTypes := #[]
  resolved := Array.replicate 8 none
  statics := none }

/-- the primitive byte -/
def k14 : Class := { plain "byte" none with kind := .primitive 'B', accessFlags := 0x411 }
/-- [B -/
def k15 : Class := { plain "[B" (some 0) with kind := .array 14 .byte, interfaces := #[13, 2], accessFlags := 1041 }

/-- the primitive char -/
def k16 : Class := { plain "char" none with kind := .primitive 'C', accessFlags := 0x411 }
/-- [C -/
def k17 : Class := { plain "[C" (some 0) with kind := .array 16 .char, interfaces := #[13, 2], accessFlags := 1041 }

/-- the primitive int -/
def k18 : Class := { plain "int" none with kind := .primitive 'I', accessFlags := 0x411 }
/-- [I -/
def k19 : Class := { plain "[I" (some 0) with kind := .array 18 .int, interfaces := #[13, 2], accessFlags := 1041 }

def heap : Heap := #[{ cls := 7, slots := #[.long 0, .int 1, .null, .int 0, .null, .int 0, .int 0], vm := .statics 7 },
  { cls := 11, slots := #[.null, .null, .null], vm := .statics 11 }]
def classes : Array Class := #[k0, k1, k2, k3, k4, k5, k6, k7, k8, k9, k10, k11, k12, k13, k14, k15, k16, k17, k18, k19]
def interned : List (Array UInt16 × Addr) := []
def slotsUsed : Nat := 10
def theMethod : MethodId := ⟨1, 1⟩
def args0 : Array Value := #[.int 5, .int 7]
def aboutOver (below : List Frame) : State where
  vm := { classes := classes, interned := interned.toArray }
  heap := heap
  slotsUsed := slotsUsed
  threads := #[{ frames := .invoking theMethod args0 :: below }]
def below0 : List Frame := [.native { method := ⟨0, 0⟩, args := #[] }]
def about1 : State := aboutOver below0
def p0 : Program := .bare "" "" ""
def e0 : Env := launch0.env 0 0 0
theorem w_frames : about1.frames = Frame.invoking theMethod args0 :: below0 := rfl
set_option maxRecDepth 65536 in
theorem w_args : argsFit about1.vm theMethod args0 = true := by decide +kernel
set_option maxRecDepth 65536 in
theorem w_heap : heapFits about1 = true := by decide +kernel
set_option maxRecDepth 65536 in
theorem w_runnable : about1.curStatus? = some .runnable := by decide +kernel
set_option maxRecDepth 65536 in
theorem w_alone : about1.alone = true := by decide +kernel
set_option maxRecDepth 65536 in
theorem w_named : about1.methodNamed? x = some theMethod := by decide +kernel
set_option maxRecDepth 65536 in
theorem w_hears : about1.hears theMethod below0 = true := by decide +kernel
set_option maxRecDepth 65536 in
theorem w_ripe : about1.ripe theMethod args0 below0 = true := by decide +kernel
theorem w_running : about1.status = .running := rfl
set_option maxRecDepth 65536 in
theorem w_room : about1.hasRoom e0.platform room_1 = true :=
  launch0.hasRoom_least _ room_1 (by decide +kernel) (by decide +kernel) (by decide +kernel) (by decide +kernel) (by decide +kernel) (by decide +kernel)
theorem allAtoms_all (ts : List Jvm.Cond) (a : Array Jvm.Value) (st : Jvm.State) : (allAtoms ts).before a st = ts.all (fun c => c.before a st) := by
  induction ts with
  | nil => rfl
  | cons c t ih =>
    show (Jvm.Cond.and c (allAtoms t)).before a st = _
    rw [Jvm.Cond.before_and, ih, List.all_cons]
def words1 : List Jvm.Cond := Jvm.Cond.code x code maxLocals ret :: tables_1
/-- a 'code' word, met by the world's own term for the bytes: nothing is compared byte by byte -/
theorem code_word {y : MethodName} {bytes : ByteArray} {mx : Nat} {rt : Option FieldType} {a : Array Value} {s : State} {m : MethodId} {meth : Method} {c : Code} (h1 : s.methodNamed? y = some m) (h2 : s.vm.method? m = some meth) (h3 : meth.code = some c) (h4 : c.code = bytes)
    (h5 : (c.maxLocals == mx && c.exceptionTable.isEmpty && decide (c.maxStack ≤ mostOperands) && decide (meth.sig.returnType = rt) && !meth.locks && decide (parseMethodDescriptor y.desc = some meth.sig)) = true) : (Jvm.Cond.code y bytes mx rt).before a s = true := by
  simp only [Bool.and_eq_true, beq_iff_eq, Bool.not_eq_true', decide_eq_true_eq] at h5
  obtain ⟨⟨⟨⟨⟨g1, g2⟩, g3⟩, g4⟩, g5⟩, g6⟩ := h5
  simp [Cond.before, Cond.holds, Cond.value, h1, h2, h3, h4, g1, g2, g3, g4, g5, g6]
def isCode : Jvm.Cond → Bool
  | .code _ _ _ _ => true
  | _ => false
theorem all_split {L : List Jvm.Cond} {P : Jvm.Cond → Bool} (h1 : L.all (fun c => isCode c || P c) = true) (h2 : ∀ c ∈ L.filter isCode, P c = true) : L.all P = true := by
  refine List.all_eq_true.mpr fun c hc => ?_
  have h := List.all_eq_true.mp h1 c hc
  rcases Bool.eq_false_or_eq_true (isCode c) with hi | hi
  · exact h2 c (List.mem_filter.mpr ⟨hc, hi⟩)
  · simpa [hi] using h
set_option maxRecDepth 65536 in
theorem w_c0 : (Jvm.Cond.code x code maxLocals ret).before args0 about1 = true := code_word (m := ⟨1, 1⟩) (meth := k1m1) (c := k1c1) (by decide +kernel) rfl rfl rfl (by decide +kernel)
set_option maxRecDepth 65536 in
theorem w_c1 : (Jvm.Cond.code ({ cls := "java/lang/String", name := "<init>", desc := "([C)V" } : Jvm.MethodName) jdk_42_method_3_code (2 : Nat) (Option.none : Option Jvm.ClassFile.FieldType)).before args0 about1 = true := code_word (m := ⟨7, 1⟩) (meth := k7m1) (c := k7c1) (by decide +kernel) rfl rfl rfl (by decide +kernel)
set_option maxRecDepth 65536 in
theorem w_c2 : (Jvm.Cond.code ({ cls := "java/lang/String", name := "<init>", desc := "([CIILjava/lang/Void;)V" } : Jvm.MethodName) jdk_42_method_149_code (6 : Nat) (Option.none : Option Jvm.ClassFile.FieldType)).before args0 about1 = true := code_word (m := ⟨7, 2⟩) (meth := k7m2) (c := k7c2) (by decide +kernel) rfl rfl rfl (by decide +kernel)
set_option maxRecDepth 65536 in
theorem w_c3 : (Jvm.Cond.code ({ cls := "java/lang/Object", name := "<init>", desc := "()V" } : Jvm.MethodName) object_method_1_code (1 : Nat) (Option.none : Option Jvm.ClassFile.FieldType)).before args0 about1 = true := code_word (m := ⟨0, 0⟩) (meth := k0m0) (c := k0c0) (by decide +kernel) rfl rfl rfl (by decide +kernel)
set_option maxRecDepth 65536 in
theorem w_c4 : (Jvm.Cond.code ({ cls := "java/lang/StringUTF16", name := "compress", desc := "([CII)[B" } : Jvm.MethodName) jdk_52_method_16_code (6 : Nat) (Option.some (Jvm.ClassFile.FieldType.array Jvm.ClassFile.FieldType.byte))).before args0 about1 = true := code_word (m := ⟨8, 2⟩) (meth := k8m2) (c := k8c2) (by decide +kernel) rfl rfl rfl (by decide +kernel)
set_option maxRecDepth 65536 in
theorem w_c5 : (Jvm.Cond.code ({ cls := "java/lang/StringUTF16", name := "compress", desc := "([CI[BII)I" } : Jvm.MethodName) jdk_52_method_21_code (7 : Nat) (Option.some Jvm.ClassFile.FieldType.int)).before args0 about1 = true := code_word (m := ⟨8, 3⟩) (meth := k8m3) (c := k8c3) (by decide +kernel) rfl rfl rfl (by decide +kernel)
set_option maxRecDepth 65536 in
theorem w_c6 : (Jvm.Cond.code ({ cls := "java/lang/StringUTF16", name := "coderFromArrayLen", desc := "([BI)B" } : Jvm.MethodName) jdk_52_method_15_code (2 : Nat) (Option.some Jvm.ClassFile.FieldType.byte)).before args0 about1 = true := code_word (m := ⟨8, 1⟩) (meth := k8m1) (c := k8c1) (by decide +kernel) rfl rfl rfl (by decide +kernel)
set_option maxRecDepth 65536 in
theorem w_c7 : (Jvm.Cond.code ({ cls := "com/example/least1/least1/RouteMetrics$Waiting", name := "<init>", desc := "(ILjava/lang/String;)V" } : Jvm.MethodName) prog_9_method_1_code (3 : Nat) (Option.none : Option Jvm.ClassFile.FieldType)).before args0 about1 = true := code_word (m := ⟨9, 0⟩) (meth := k9m0) (c := k9c0) (by decide +kernel) rfl rfl rfl (by decide +kernel)
set_option maxRecDepth 65536 in
theorem w_c8 : (Jvm.Cond.code ({ cls := "com/example/least1/least1/RouteMetrics$Waiting", name := "isDown", desc := "()Z" } : Jvm.MethodName) prog_9_method_4_code (1 : Nat) (Option.some Jvm.ClassFile.FieldType.boolean)).before args0 about1 = true := code_word (m := ⟨9, 1⟩) (meth := k9m1) (c := k9c1) (by decide +kernel) rfl rfl rfl (by decide +kernel)
def codes1 : List Jvm.Cond := [Jvm.Cond.code x code maxLocals ret, Jvm.Cond.code ({ cls := "java/lang/String", name := "<init>", desc := "([C)V" } : Jvm.MethodName) jdk_42_method_3_code (2 : Nat) (Option.none : Option Jvm.ClassFile.FieldType), Jvm.Cond.code ({ cls := "java/lang/String", name := "<init>", desc := "([CIILjava/lang/Void;)V" } : Jvm.MethodName) jdk_42_method_149_code (6 : Nat) (Option.none : Option Jvm.ClassFile.FieldType), Jvm.Cond.code ({ cls := "java/lang/Object", name := "<init>", desc := "()V" } : Jvm.MethodName) object_method_1_code (1 : Nat) (Option.none : Option Jvm.ClassFile.FieldType), Jvm.Cond.code ({ cls := "java/lang/StringUTF16", name := "compress", desc := "([CII)[B" } : Jvm.MethodName) jdk_52_method_16_code (6 : Nat) (Option.some (Jvm.ClassFile.FieldType.array Jvm.ClassFile.FieldType.byte)), Jvm.Cond.code ({ cls := "java/lang/StringUTF16", name := "compress", desc := "([CI[BII)I" } : Jvm.MethodName) jdk_52_method_21_code (7 : Nat) (Option.some Jvm.ClassFile.FieldType.int), Jvm.Cond.code ({ cls := "java/lang/StringUTF16", name := "coderFromArrayLen", desc := "([BI)B" } : Jvm.MethodName) jdk_52_method_15_code (2 : Nat) (Option.some Jvm.ClassFile.FieldType.byte), Jvm.Cond.code ({ cls := "com/example/least1/least1/RouteMetrics$Waiting", name := "<init>", desc := "(ILjava/lang/String;)V" } : Jvm.MethodName) prog_9_method_1_code (3 : Nat) (Option.none : Option Jvm.ClassFile.FieldType), Jvm.Cond.code ({ cls := "com/example/least1/least1/RouteMetrics$Waiting", name := "isDown", desc := "()Z" } : Jvm.MethodName) prog_9_method_4_code (1 : Nat) (Option.some Jvm.ClassFile.FieldType.boolean)]
set_option maxRecDepth 65536 in
theorem codes_eq : words1.filter isCode = codes1 := rfl
theorem w_codes : ∀ c ∈ words1.filter isCode, c.before args0 about1 = true := by
  rw [codes_eq]
  intro c hc
  simp only [codes1, List.mem_cons, List.not_mem_nil, or_false] at hc
  rcases hc with rfl | rfl | rfl | rfl | rfl | rfl | rfl | rfl | rfl
  · exact w_c0
  · exact w_c1
  · exact w_c2
  · exact w_c3
  · exact w_c4
  · exact w_c5
  · exact w_c6
  · exact w_c7
  · exact w_c8
set_option maxRecDepth 65536 in
theorem w_t1 : (words1.take 24).all (fun c => isCode c || c.before args0 about1) = true := by decide +kernel
set_option maxRecDepth 65536 in
theorem w_t2 : (words1.drop 24).all (fun c => isCode c || c.before args0 about1) = true := by decide +kernel
theorem w_tables : (allAtoms (Jvm.Cond.code x code maxLocals ret :: tables_1)).before args0 about1 = true := by
  rw [allAtoms_all]
  show words1.all (fun c => c.before args0 about1) = true
  refine all_split ?_ w_codes
  rw [← List.take_append_drop 24 words1, List.all_append, w_t1, w_t2]
  rfl
set_option maxRecDepth 65536 in
theorem w_rest : rest_1_c.before args0 about1 = true := by decide +kernel
set_option maxRecDepth 65536 in
theorem w_case : (Jvm.Cond.and given_1 narrow_1).before args0 about1 = true := by decide +kernel
theorem w_applies : (headSpec (Jvm.Cond.code x code maxLocals ret :: tables_1) room_1).applies x e0.platform about1 = true :=
  (Spec.applies_iff w_frames).mpr ⟨w_running, w_runnable, w_alone, w_named, w_hears, w_ripe, w_room, w_tables⟩
theorem atStart : AtStart classFile x code maxLocals ret World_1 tables_1 room_1 Calls_1 rest_1 Pre_1 launch0 p0 e0 about1 theMethod args0 below0 :=
  ⟨lists_1, trivial, launch0.admits_env _ _ _, launch0.least_env, fairChoices_fair.cas, fairChoices_fair.clock, w_frames, w_args, w_heap, w_applies, trivial, w_rest, w_case⟩
end start1
theorem witness_1 : WitnessClaimed_1 := ⟨start1.p0, start1.e0, start1.about1, start1.theMethod, start1.args0, start1.below0, start1.atStart⟩
end Jvm.Pilot.@@N@@
