import JvmDerived
import JvmDerived.Pilot.@@N@@Statement
import JvmDerived.Pilot.@@N@@Code
set_option linter.unusedVariables false
set_option linter.unusedSimpArgs false

namespace Jvm.Own
open Sem ClassFile Op Lib Jvm.Stand Jvm.Free Jvm.LawKit Jvm.RoadKit
/-! the walk in continuation style: Wlk says that from here the run ends as wanted -/
abbrev JJ : Type := Bool × List String × List (String × Nat × Addr)
abbrev Cx : Type := Program × Launch × Env × State × MethodId × Array Value × List Frame × Method × Code
abbrev Cx.p (G : Cx) : Program := G.1
abbrev Cx.l (G : Cx) : Launch := G.2.1
abbrev Cx.e (G : Cx) : Env := G.2.2.1
abbrev Cx.s (G : Cx) : State := G.2.2.2.1
abbrev Cx.m (G : Cx) : MethodId := G.2.2.2.2.1
abbrev Cx.args (G : Cx) : Array Value := G.2.2.2.2.2.1
abbrev Cx.below (G : Cx) : List Frame := G.2.2.2.2.2.2.1
abbrev Cx.meth (G : Cx) : Method := G.2.2.2.2.2.2.2.1
abbrev Cx.c (G : Cx) : Code := G.2.2.2.2.2.2.2.2
/-- the texts loaded since the case's start; the entries known to be resolved -/
def Books (Z : State) (vm : Vm) (J : JJ) : Prop := J.1 = true → IB Z vm J.2.1 ∧ ∀ x ∈ J.2.2, Lit (Z.setVm vm) x.1 x.2.1 x.2.2
theorem Books.warm {Z s : State} {vm0 vm1 : Vm} {J : JJ} (B : Books Z vm0 J) (h : (s.setVm vm0).WarmedH vm1) : Books Z vm1 J := by
  intro hj
  refine ⟨?_, fun x hx => ?_⟩
  · obtain ⟨more, e, r⟩ := (B hj).1
    exact ⟨more, h.interned_eq.trans e, r⟩
  · exact Lit.stays (s := s) ((B hj).2 x hx) h.wide
def EndM (w : Bool) (s : State) (o : Outcome) (t : State) (L : List Loc) (k n : Nat) : Prop := ReturnedEndW s o t L k n ∧ (w = false → s.WarmedH t.vm)
def Pos (G : Cx) (R : Room) (Z : State) (own : String) (w : Bool) (J : JJ) (T : State) (h : Heap) (L : List Loc) (k n : Nat) : Prop :=
  ∃ (vm0 : Vm) (k0 : Nat), Stand G.p G.l G.e R (G.s.setVm vm0) G.m G.args G.below G.meth G.c T L k n ∧ T.heap = h ∧ G.s.Since vm0 k0 ∧ k0 ≤ h.size ∧ Z.Warmed39 vm0 ∧ vm0.findClass own = some G.m.cls ∧ (w = false → vm0 = G.s.vm) ∧ (w = true → Books Z vm0 J) ∧ Ext Z.heap h ∧ Fr Z.heap.size L
def Go (G : Cx) (R : Room) (Z : State) (w : Bool) (Q : Option Value → Heap → JJ → Prop) (U : State) : Prop :=
  ∃ (s₂ : State) (o : Outcome), Steps G.p.tables G.e G.below U s₂ ∧ s₂.status = .running ∧ Ended s₂ G.below o ∧
    ∃ (v : Option Value) (L : List Loc) (J' : JJ), o = .returned v ∧ (Q v s₂.heap J' ∧ Fr Z.heap.size L ∧ Ext Z.heap s₂.heap ∧ (w = true → Books Z s₂.vm J')) ∧ EndM w G.s o s₂ L R.cells R.slots
def Cok (G : Cx) (y : MethodName) (code : ByteArray) (ret : Option FieldType) : Prop :=
  G.p.tables.exec = Jvm.exec ∧ G.c.code = code ∧ G.meth.sig.returnType = ret ∧ G.meth.locks = false ∧ G.meth.name = y.name
def Wlk (G : Cx) (R : Room) (Z : State) (y : MethodName) (code : ByteArray) (ret : Option FieldType) (w : Bool) (J : JJ) (Q : Option Value → Heap → JJ → Prop) (h : Heap) (k n pc : Nat) (Ls : Array Slot) (st : List Value) : Prop :=
  Cok G y code ret → Ls.size = G.c.maxLocals → ∀ (T : State) (L : List Loc), Pos G R Z y.cls w J T h L k n → Go G R Z w Q (T.setTop (mkF G.m pc Ls st))
/-- what a body does: from the arguments and the heap h it returns as Q says -/
def Met (l : Launch) (Z : State) (y : MethodName) (code : ByteArray) (ml : Nat) (ret : Option FieldType) (w : Bool) (ws : List Jvm.Cond) (rm : Room) (as' : Array Value) (h : Heap) (J : JJ) (Q : Option Value → Heap → JJ → Prop) : Prop :=
  MetFree l y (head1 (Jvm.Cond.code y code ml ret :: ws) rm) (fun a U => a = as' ∧ Z.Warmed39 U.vm ∧ U.heap = h ∧ Ext Z.heap h ∧ (w = true → Books Z U.vm J)) (fun _ _ _ _ _ => True)
    (fun _ U o U' => ∃ (v : Option Value) (L : List Loc) (J' : JJ), o = .returned v ∧ (Q v U'.heap J' ∧ Fr Z.heap.size L ∧ Ext Z.heap U'.heap ∧ (w = true → Books Z U'.vm J')) ∧ EndM w U o U' L rm.cells rm.slots)
theorem Met.of_goes {l : Launch} {Z : State} {y : MethodName} {code : ByteArray} {ml : Nat} {ret : Option FieldType} {w : Bool} {ws : List Jvm.Cond} {rm : Room} {as' : Array Value} {h : Heap} {J : JJ} {Q : Option Value → Heap → JJ → Prop}
    (hx : plainFor y = true) {Ls : Array Slot} (hef : ∀ m, entryFrame m as' ml = mkF m 0 Ls []) (hsz : Ls.size = ml) (H : ∀ G : Cx, G.l = l → Wlk G rm Z y code ret w J Q h 0 0 0 Ls []) : Met l Z y code ml ret w ws rm as' h J Q := by
  refine MetFree.of_bodySF hx hisR ?_
  intro p e s m args below meth c s₁ Bd hml hP hK
  obtain ⟨rfl, hZ, hh, hE, hB⟩ := hP
  have X0 : Stand p l e rm s m args below meth c s₁ [] 0 0 := Stand.of_body Bd
  obtain ⟨s₂, o, hs, r⟩ := H (p, l, e, s, m, args, below, meth, c) rfl ⟨Bd.exec, Bd.bytes, Bd.returns, Bd.notSynchronized, (name_of_methodNamed Bd.named Bd.method).1⟩ (hsz.trans hml.symm) s₁ [] ⟨s.vm, 0, X0, by rw [← hh, Bd.state]; rfl, (State.WarmedH.refl s).since 0, Nat.zero_le _, hZ, findClass_of_methodNamed Bd.named, fun _ => rfl, hB, hE, Fr.nil _⟩
  exact ⟨s₂, o, castTop (hef m) hs, r⟩
section Walk
variable {G : Cx} {R : Room} {Z : State} {y : MethodName} {code : ByteArray} {ret : Option FieldType} {w : Bool} {J : JJ} {Q : Option Value → Heap → JJ → Prop} {h : Heap} {k n pc pc' : Nat} {Ls Ls' : Array Slot} {st st' : List Value} {a0 : Array Value}
theorem Wlk.plain (hz : Ls'.size = Ls.size) (hstep : Cok G y code ret → ∀ (T target : State), At T G.m G.c G.below → Steps G.p.tables G.e G.below (T.setTop (mkF G.m pc' Ls' st')) target → Steps G.p.tables G.e G.below (T.setTop (mkF G.m pc Ls st)) target) (H : Wlk G R Z y code ret w J Q h k n pc' Ls' st') : Wlk G R Z y code ret w J Q h k n pc Ls st := by
  intro hG hsz T L hP
  obtain ⟨s₂, o, hs, r⟩ := H hG (hz.trans hsz) T L hP
  obtain ⟨vm0, k0, X, -⟩ := hP
  exact ⟨s₂, o, hstep hG T _ X.here hs, r⟩
/-- a step that reads the tables or the heap and changes no cell -/
theorem Wlk.reads (hz : Ls'.size = Ls.size) (hstep : ∀ (vm0 : Vm) (T : State) (L : List Loc), Cok G y code ret → Ls.size = G.c.maxLocals → Stand G.p G.l G.e R (G.s.setVm vm0) G.m G.args G.below G.meth G.c T L k n → T.heap = h → Z.Warmed39 vm0 → vm0.findClass y.cls = some G.m.cls → Ext Z.heap h →
      ∃ T' : State, Stand G.p G.l G.e R (G.s.setVm vm0) G.m G.args G.below G.meth G.c T' L k n ∧ T'.heap = h ∧ ∀ target, Steps G.p.tables G.e G.below (T'.setTop (mkF G.m pc' Ls' st')) target → Steps G.p.tables G.e G.below (T.setTop (mkF G.m pc Ls st)) target)
    (H : Wlk G R Z y code ret w J Q h k n pc' Ls' st') : Wlk G R Z y code ret w J Q h k n pc Ls st := by
  intro hG hsz T L hP
  obtain ⟨vm0, k0, X, eT, hS, hk, hZ, hown, hw, hB, hE, hF⟩ := hP
  obtain ⟨T', X', e', st'⟩ := hstep vm0 T L hG hsz X eT hZ hown hE
  obtain ⟨s₂, o, hs, r⟩ := H hG (hz.trans hsz) T' L ⟨vm0, k0, X', e', hS, hk, hZ, hown, hw, hB, hE, hF⟩
  exact ⟨s₂, o, st' _ hs, r⟩
/-- a step that writes or makes -/
theorem Wlk.moves {k' n' : Nat} (hz : Ls'.size = Ls.size) {P : Heap → Prop} (hstep : ∀ (vm0 : Vm) (T : State) (L : List Loc), Cok G y code ret → Ls.size = G.c.maxLocals → Stand G.p G.l G.e R (G.s.setVm vm0) G.m G.args G.below G.meth G.c T L k n → T.heap = h → Z.Warmed39 vm0 → vm0.findClass y.cls = some G.m.cls → Ext Z.heap h → Fr Z.heap.size L →
      ∃ (T' : State) (h' : Heap) (L' : List Loc), Stand G.p G.l G.e R (G.s.setVm vm0) G.m G.args G.below G.meth G.c T' L' k' n' ∧ T'.heap = h' ∧ h.size ≤ h'.size ∧ Ext Z.heap h' ∧ Fr Z.heap.size L' ∧ P h' ∧ ∀ target, Steps G.p.tables G.e G.below (T'.setTop (mkF G.m pc' Ls' st')) target → Steps G.p.tables G.e G.below (T.setTop (mkF G.m pc Ls st)) target)
    (H : ∀ h', P h' → Wlk G R Z y code ret w J Q h' k' n' pc' Ls' st') : Wlk G R Z y code ret w J Q h k n pc Ls st := by
  intro hG hsz T L hP
  obtain ⟨vm0, k0, X, eT, hS, hk, hZ, hown, hw, hB, hE, hF⟩ := hP
  obtain ⟨T', h', L', X', e', hle, hE', hF', hP', st'⟩ := hstep vm0 T L hG hsz X eT hZ hown hE hF
  obtain ⟨s₂, o, hs, r⟩ := H h' hP' hG (hz.trans hsz) T' L' ⟨vm0, k0, X', e', hS, Nat.le_trans hk hle, hZ, hown, hw, hB, hE', hF'⟩
  exact ⟨s₂, o, st' _ hs, r⟩
theorem Wlk.more {k' n' : Nat} (hk' : k ≤ k') (hn' : n ≤ n') (H : Wlk G R Z y code ret w J Q h k' n' pc Ls st) : Wlk G R Z y code ret w J Q h k n pc Ls st := by
  intro hG hsz T L hP
  obtain ⟨vm0, k0, X, r⟩ := hP
  exact H hG hsz T L ⟨vm0, k0, X.more hk' hn', r⟩
theorem Wlk.ext0 (H : Ext Z.heap h → Wlk G R Z y code ret w J Q h k n pc Ls st) : Wlk G R Z y code ret w J Q h k n pc Ls st := fun hG hsz T L hP => H (by obtain ⟨vm0, k0, X, eT, hS, hk, hZ, hown, hw, hB, hE, hF⟩ := hP; exact hE) hG hsz T L hP
/-- the conditions of a branch, taken and not -/
def cT (cd : ClassFile.Cond) (x z : Int32) : Prop := match cd with
  | .eq => x = z
  | .ne => ¬ x = z
  | .lt => x < z
  | .ge => ¬ x < z
  | .gt => z < x
  | .le => ¬ z < x
def cF (cd : ClassFile.Cond) (x z : Int32) : Prop := match cd with
  | .eq => ¬ x = z
  | .ne => x = z
  | .lt => ¬ x < z
  | .ge => x < z
  | .gt => ¬ z < x
  | .le => z < x
theorem cT_holds {cd : ClassFile.Cond} {x z : Int32} (c : cT cd x z) : if_icmp.holds cd x z = true := by
  cases cd
  · exact (teq c).1
  · exact (feq c).2
  · exact (tlt c).1
  · exact (flt c).2.1
  · exact (tlt c).2.2.1
  · exact (flt c).2.2.2
theorem cF_holds {cd : ClassFile.Cond} {x z : Int32} (c : cF cd x z) : if_icmp.holds cd x z = false := by
  cases cd
  · exact (feq c).1
  · exact (teq c).2
  · exact (flt c).1
  · exact (tlt c).2.1
  · exact (flt c).2.2.1
  · exact (tlt c).2.2.2
theorem cTF (cd : ClassFile.Cond) (x z : Int32) : cT cd x z ∨ cF cd x z := by
  cases cd
  · exact Classical.em (x = z)
  · exact (Classical.em (x = z)).symm
  · exact Classical.em (x < z)
  · exact (Classical.em (x < z)).symm
  · exact Classical.em (z < x)
  · exact (Classical.em (z < x)).symm

theorem Wlk.aloadN {j : Fin 4} {v : Value} (hd : decode code pc = .ok (.aload_n j, 1)) (hl : Ls[j.val]? = some (.val v)) (hv : v.isRef = true) (hp : pc + 1 = pc') (H : Wlk G R Z y code ret w J Q h k n pc' Ls (v :: st)) : Wlk G R Z y code ret w J Q h k n pc Ls st := by
  subst hp
  exact Wlk.plain rfl (fun hG T t hA q => XS.aloadN hA hG.1 rfl (hb hG.2.1 hd) hl hv q) H
theorem Wlk.aload {j : Nat} {v : Value} (hd : decode code pc = .ok (.aload j, 2)) (hl : Ls[j]? = some (.val v)) (hv : v.isRef = true) (hp : pc + 2 = pc') (H : Wlk G R Z y code ret w J Q h k n pc' Ls (v :: st)) : Wlk G R Z y code ret w J Q h k n pc Ls st := by
  subst hp
  exact Wlk.plain rfl (fun hG T t hA q => XS.aload hA hG.1 rfl (hb hG.2.1 hd) hl hv q) H
theorem Wlk.iloadN {j : Fin 4} {v : Int32} (hd : decode code pc = .ok (.iload_n j, 1)) (hl : Ls[j.val]? = some (.val (.int v))) (hp : pc + 1 = pc') (H : Wlk G R Z y code ret w J Q h k n pc' Ls (.int v :: st)) : Wlk G R Z y code ret w J Q h k n pc Ls st := by
  subst hp
  exact Wlk.plain rfl (fun hG T t hA q => XS.iloadN hA hG.1 rfl (hb hG.2.1 hd) hl q) H
theorem Wlk.iload {j : Nat} {v : Int32} (hd : decode code pc = .ok (.iload j, 2)) (hl : Ls[j]? = some (.val (.int v))) (hp : pc + 2 = pc') (H : Wlk G R Z y code ret w J Q h k n pc' Ls (.int v :: st)) : Wlk G R Z y code ret w J Q h k n pc Ls st := by
  subst hp
  exact Wlk.plain rfl (fun hG T t hA q => XS.iload hA hG.1 rfl (hb hG.2.1 hd) hl q) H
theorem Wlk.lloadN {j : Fin 4} {v : Int64} (hd : decode code pc = .ok (.lload_n j, 1)) (hl : Ls[j.val]? = some (.val (.long v))) (hp : pc + 1 = pc') (H : Wlk G R Z y code ret w J Q h k n pc' Ls (.long v :: st)) : Wlk G R Z y code ret w J Q h k n pc Ls st := by
  subst hp
  exact Wlk.plain rfl (fun hG T t hA q => XT.lloadN hA hG.1 rfl (hb hG.2.1 hd) hl q) H
theorem Wlk.lload {j : Nat} {v : Int64} (hd : decode code pc = .ok (.lload j, 2)) (hl : Ls[j]? = some (.val (.long v))) (hp : pc + 2 = pc') (H : Wlk G R Z y code ret w J Q h k n pc' Ls (.long v :: st)) : Wlk G R Z y code ret w J Q h k n pc Ls st := by
  subst hp
  exact Wlk.plain rfl (fun hG T t hA q => XT.lload hA hG.1 rfl (hb hG.2.1 hd) hl q) H
theorem Wlk.iconst {i : Int} {v : Int32} (hd : decode code pc = .ok (.iconst i, 1)) (hv : Int32.ofInt i = v) (hp : pc + 1 = pc') (H : Wlk G R Z y code ret w J Q h k n pc' Ls (.int v :: st)) : Wlk G R Z y code ret w J Q h k n pc Ls st := by
  subst hp
  exact Wlk.plain rfl (fun hG T t hA q => XS.iconst hA hG.1 rfl (hb hG.2.1 hd) (by rw [hv]; exact q)) H
theorem Wlk.bipush {i : Int} {v : Int32} (hd : decode code pc = .ok (.bipush i, 2)) (hv : (Int8.ofInt i).toInt32 = v) (hp : pc + 2 = pc') (H : Wlk G R Z y code ret w J Q h k n pc' Ls (.int v :: st)) : Wlk G R Z y code ret w J Q h k n pc Ls st := by
  subst hp
  exact Wlk.plain rfl (fun hG T t hA q => XS.bipush hA hG.1 rfl (hb hG.2.1 hd) (by rw [hv]; exact q)) H
theorem Wlk.sipush {i : Int} {v : Int32} (hd : decode code pc = .ok (.sipush i, 3)) (hv : (Int16.ofInt i).toInt32 = v) (hp : pc + 3 = pc') (H : Wlk G R Z y code ret w J Q h k n pc' Ls (.int v :: st)) : Wlk G R Z y code ret w J Q h k n pc Ls st := by
  subst hp
  exact Wlk.plain rfl (fun hG T t hA q => XS.sipush hA hG.1 rfl (hb hG.2.1 hd) (by rw [hv]; exact q)) H
theorem Wlk.lconst {j : Fin 2} {v : Int64} (hd : decode code pc = .ok (.lconst j, 1)) (hv : Int64.ofNat j = v) (hp : pc + 1 = pc') (H : Wlk G R Z y code ret w J Q h k n pc' Ls (.long v :: st)) : Wlk G R Z y code ret w J Q h k n pc Ls st := by
  subst hp
  exact Wlk.plain rfl (fun hG T t hA q => XT.lconst hA hG.1 rfl (hb hG.2.1 hd) (by rw [hv]; exact q)) H
theorem Wlk.aconstNull  (hd : decode code pc = .ok (.aconst_null, 1)) (hp : pc + 1 = pc') (H : Wlk G R Z y code ret w J Q h k n pc' Ls (.null :: st)) : Wlk G R Z y code ret w J Q h k n pc Ls st := by
  subst hp
  exact Wlk.plain rfl (fun hG T t hA q => XS.aconstNull hA hG.1 rfl (hb hG.2.1 hd) q) H
theorem Wlk.iadd {x z : Int32} (hd : decode code pc = .ok (.iadd, 1)) (hp : pc + 1 = pc') (H : Wlk G R Z y code ret w J Q h k n pc' Ls (.int (x + z) :: st)) : Wlk G R Z y code ret w J Q h k n pc Ls (.int z :: .int x :: st) := by
  subst hp
  exact Wlk.plain rfl (fun hG T t hA q => XS.iadd hA hG.1 rfl (hb hG.2.1 hd) rfl q) H
theorem Wlk.isub {x z : Int32} (hd : decode code pc = .ok (.isub, 1)) (hp : pc + 1 = pc') (H : Wlk G R Z y code ret w J Q h k n pc' Ls (.int (x - z) :: st)) : Wlk G R Z y code ret w J Q h k n pc Ls (.int z :: .int x :: st) := by
  subst hp
  exact Wlk.plain rfl (fun hG T t hA q => XS.isub hA hG.1 rfl (hb hG.2.1 hd) rfl q) H
theorem Wlk.imul {x z : Int32} (hd : decode code pc = .ok (.imul, 1)) (hp : pc + 1 = pc') (H : Wlk G R Z y code ret w J Q h k n pc' Ls (.int (x * z) :: st)) : Wlk G R Z y code ret w J Q h k n pc Ls (.int z :: .int x :: st) := by
  subst hp
  exact Wlk.plain rfl (fun hG T t hA q => XS.imul hA hG.1 rfl (hb hG.2.1 hd) rfl q) H
theorem Wlk.iand {x z : Int32} (hd : decode code pc = .ok (.iand, 1)) (hp : pc + 1 = pc') (H : Wlk G R Z y code ret w J Q h k n pc' Ls (.int (x &&& z) :: st)) : Wlk G R Z y code ret w J Q h k n pc Ls (.int z :: .int x :: st) := by
  subst hp
  exact Wlk.plain rfl (fun hG T t hA q => XS.iand hA hG.1 rfl (hb hG.2.1 hd) rfl q) H
theorem Wlk.ior {x z : Int32} (hd : decode code pc = .ok (.ior, 1)) (hp : pc + 1 = pc') (H : Wlk G R Z y code ret w J Q h k n pc' Ls (.int (x ||| z) :: st)) : Wlk G R Z y code ret w J Q h k n pc Ls (.int z :: .int x :: st) := by
  subst hp
  exact Wlk.plain rfl (fun hG T t hA q => XT.ior hA hG.1 rfl (hb hG.2.1 hd) rfl q) H
theorem Wlk.ixor {x z : Int32} (hd : decode code pc = .ok (.ixor, 1)) (hp : pc + 1 = pc') (H : Wlk G R Z y code ret w J Q h k n pc' Ls (.int (x ^^^ z) :: st)) : Wlk G R Z y code ret w J Q h k n pc Ls (.int z :: .int x :: st) := by
  subst hp
  exact Wlk.plain rfl (fun hG T t hA q => XT.ixor hA hG.1 rfl (hb hG.2.1 hd) rfl q) H
theorem Wlk.irem {x z : Int32} (hd : decode code pc = .ok (.irem, 1)) (hne : z ≠ 0) (hp : pc + 1 = pc') (H : Wlk G R Z y code ret w J Q h k n pc' Ls (.int (x % z) :: st)) : Wlk G R Z y code ret w J Q h k n pc Ls (.int z :: .int x :: st) := by
  subst hp
  exact Wlk.reads rfl (fun vm0 T L hG hsz X eT hZ hown hE => ⟨T, X, eT, fun t q => iremM (g := mkF G.m pc Ls (.int z :: .int x :: st)) X hG.1 rfl (hb hG.2.1 hd) rfl hne q⟩) H
theorem Wlk.idiv {x z : Int32} (hd : decode code pc = .ok (.idiv, 1)) (hne : z ≠ 0) (hp : pc + 1 = pc') (H : Wlk G R Z y code ret w J Q h k n pc' Ls (.int (x / z) :: st)) : Wlk G R Z y code ret w J Q h k n pc Ls (.int z :: .int x :: st) := by
  subst hp
  exact Wlk.plain rfl (fun hG T t hA q => XS.idiv hA hG.1 rfl (hb hG.2.1 hd) rfl hne q) H
theorem Wlk.ishl {x z : Int32} (hd : decode code pc = .ok (.ishl, 1)) (hp : pc + 1 = pc') (H : Wlk G R Z y code ret w J Q h k n pc' Ls (.int (x <<< (z &&& 31)) :: st)) : Wlk G R Z y code ret w J Q h k n pc Ls (.int z :: .int x :: st) := by
  subst hp
  exact Wlk.plain rfl (fun hG T t hA q => XT.ishl hA hG.1 rfl (hb hG.2.1 hd) rfl q) H
theorem Wlk.ishr {x z : Int32} (hd : decode code pc = .ok (.ishr, 1)) (hp : pc + 1 = pc') (H : Wlk G R Z y code ret w J Q h k n pc' Ls (.int (x >>> (z &&& 31)) :: st)) : Wlk G R Z y code ret w J Q h k n pc Ls (.int z :: .int x :: st) := by
  subst hp
  exact Wlk.plain rfl (fun hG T t hA q => XT.ishr hA hG.1 rfl (hb hG.2.1 hd) rfl q) H
theorem Wlk.iushr {x z : Int32} (hd : decode code pc = .ok (.iushr, 1)) (hp : pc + 1 = pc') (H : Wlk G R Z y code ret w J Q h k n pc' Ls (.int ((x.toUInt32 >>> (z &&& 31).toUInt32).toInt32) :: st)) : Wlk G R Z y code ret w J Q h k n pc Ls (.int z :: .int x :: st) := by
  subst hp
  exact Wlk.plain rfl (fun hG T t hA q => XT.iushr hA hG.1 rfl (hb hG.2.1 hd) rfl q) H
theorem Wlk.ladd {x z : Int64} (hd : decode code pc = .ok (.ladd, 1)) (hp : pc + 1 = pc') (H : Wlk G R Z y code ret w J Q h k n pc' Ls (.long (x + z) :: st)) : Wlk G R Z y code ret w J Q h k n pc Ls (.long z :: .long x :: st) := by
  subst hp
  exact Wlk.plain rfl (fun hG T t hA q => XT.ladd hA hG.1 rfl (hb hG.2.1 hd) rfl q) H
theorem Wlk.lsub {x z : Int64} (hd : decode code pc = .ok (.lsub, 1)) (hp : pc + 1 = pc') (H : Wlk G R Z y code ret w J Q h k n pc' Ls (.long (x - z) :: st)) : Wlk G R Z y code ret w J Q h k n pc Ls (.long z :: .long x :: st) := by
  subst hp
  exact Wlk.plain rfl (fun hG T t hA q => XT.lsub hA hG.1 rfl (hb hG.2.1 hd) rfl q) H
theorem Wlk.lmul {x z : Int64} (hd : decode code pc = .ok (.lmul, 1)) (hp : pc + 1 = pc') (H : Wlk G R Z y code ret w J Q h k n pc' Ls (.long (x * z) :: st)) : Wlk G R Z y code ret w J Q h k n pc Ls (.long z :: .long x :: st) := by
  subst hp
  exact Wlk.plain rfl (fun hG T t hA q => XT.lmul hA hG.1 rfl (hb hG.2.1 hd) rfl q) H
theorem Wlk.land {x z : Int64} (hd : decode code pc = .ok (.land, 1)) (hp : pc + 1 = pc') (H : Wlk G R Z y code ret w J Q h k n pc' Ls (.long (x &&& z) :: st)) : Wlk G R Z y code ret w J Q h k n pc Ls (.long z :: .long x :: st) := by
  subst hp
  exact Wlk.plain rfl (fun hG T t hA q => XT.land hA hG.1 rfl (hb hG.2.1 hd) rfl q) H
theorem Wlk.lor {x z : Int64} (hd : decode code pc = .ok (.lor, 1)) (hp : pc + 1 = pc') (H : Wlk G R Z y code ret w J Q h k n pc' Ls (.long (x ||| z) :: st)) : Wlk G R Z y code ret w J Q h k n pc Ls (.long z :: .long x :: st) := by
  subst hp
  exact Wlk.plain rfl (fun hG T t hA q => XT.lor hA hG.1 rfl (hb hG.2.1 hd) rfl q) H
theorem Wlk.lxor {x z : Int64} (hd : decode code pc = .ok (.lxor, 1)) (hp : pc + 1 = pc') (H : Wlk G R Z y code ret w J Q h k n pc' Ls (.long (x ^^^ z) :: st)) : Wlk G R Z y code ret w J Q h k n pc Ls (.long z :: .long x :: st) := by
  subst hp
  exact Wlk.plain rfl (fun hG T t hA q => XT.lxor hA hG.1 rfl (hb hG.2.1 hd) rfl q) H
theorem Wlk.ineg {x : Int32} (hd : decode code pc = .ok (.ineg, 1)) (hp : pc + 1 = pc') (H : Wlk G R Z y code ret w J Q h k n pc' Ls (.int (-x) :: st)) : Wlk G R Z y code ret w J Q h k n pc Ls (.int x :: st) := by
  subst hp
  exact Wlk.plain rfl (fun hG T t hA q => XS.ineg hA hG.1 rfl (hb hG.2.1 hd) rfl q) H
theorem Wlk.lushr {x : Int64} {z : Int32} (hd : decode code pc = .ok (.lushr, 1)) (hp : pc + 1 = pc') (H : Wlk G R Z y code ret w J Q h k n pc' Ls (.long (XT.ushrL x z) :: st)) : Wlk G R Z y code ret w J Q h k n pc Ls (.int z :: .long x :: st) := by
  subst hp
  exact Wlk.plain rfl (fun hG T t hA q => XT.lushr hA hG.1 rfl (hb hG.2.1 hd) rfl q) H
theorem Wlk.i2l {x : Int32} (hd : decode code pc = .ok (.i2l, 1)) (hp : pc + 1 = pc') (H : Wlk G R Z y code ret w J Q h k n pc' Ls (.long x.toInt64 :: st)) : Wlk G R Z y code ret w J Q h k n pc Ls (.int x :: st) := by
  subst hp
  exact Wlk.plain rfl (fun hG T t hA q => XT.i2l hA hG.1 rfl (hb hG.2.1 hd) rfl q) H
theorem Wlk.l2i {x : Int64} (hd : decode code pc = .ok (.l2i, 1)) (hp : pc + 1 = pc') (H : Wlk G R Z y code ret w J Q h k n pc' Ls (.int x.toInt32 :: st)) : Wlk G R Z y code ret w J Q h k n pc Ls (.long x :: st) := by
  subst hp
  exact Wlk.plain rfl (fun hG T t hA q => XT.l2i hA hG.1 rfl (hb hG.2.1 hd) rfl q) H
theorem Wlk.i2c {x : Int32} (hd : decode code pc = .ok (.i2c, 1)) (hp : pc + 1 = pc') (H : Wlk G R Z y code ret w J Q h k n pc' Ls (.int x.toUInt32.toUInt16.toUInt32.toInt32 :: st)) : Wlk G R Z y code ret w J Q h k n pc Ls (.int x :: st) := by
  subst hp
  exact Wlk.plain rfl (fun hG T t hA q => XT.i2c hA hG.1 rfl (hb hG.2.1 hd) rfl q) H
theorem Wlk.i2b {x : Int32} (hd : decode code pc = .ok (.i2b, 1)) (hp : pc + 1 = pc') (H : Wlk G R Z y code ret w J Q h k n pc' Ls (.int x.toInt8.toInt32 :: st)) : Wlk G R Z y code ret w J Q h k n pc Ls (.int x :: st) := by
  subst hp
  exact Wlk.plain rfl (fun hG T t hA q => XT.i2b hA hG.1 rfl (hb hG.2.1 hd) rfl q) H
theorem Wlk.i2s {x : Int32} (hd : decode code pc = .ok (.i2s, 1)) (hp : pc + 1 = pc') (H : Wlk G R Z y code ret w J Q h k n pc' Ls (.int x.toInt16.toInt32 :: st)) : Wlk G R Z y code ret w J Q h k n pc Ls (.int x :: st) := by
  subst hp
  exact Wlk.plain rfl (fun hG T t hA q => XT.i2s hA hG.1 rfl (hb hG.2.1 hd) rfl q) H
theorem Wlk.lcmp {x z : Int64} (hd : decode code pc = .ok (.lcmp, 1)) (hp : pc + 1 = pc') (H : Wlk G R Z y code ret w J Q h k n pc' Ls (.int (lcmpW x z) :: st)) : Wlk G R Z y code ret w J Q h k n pc Ls (.long z :: .long x :: st) := by
  subst hp
  exact Wlk.plain rfl (fun hG T t hA q => XT.lcmp hA hG.1 rfl (hb hG.2.1 hd) rfl q) H
theorem Wlk.dup {x : Value} (hd : decode code pc = .ok (.dup, 1)) (hc : x.category = 1) (hp : pc + 1 = pc') (H : Wlk G R Z y code ret w J Q h k n pc' Ls (x :: x :: st)) : Wlk G R Z y code ret w J Q h k n pc Ls (x :: st) := by
  subst hp
  exact Wlk.plain rfl (fun hG T t hA q => XS.dup hA hG.1 rfl (hb hG.2.1 hd) rfl hc q) H
theorem Wlk.pop {x : Value} (hd : decode code pc = .ok (.pop, 1)) (hc : x.category = 1) (hp : pc + 1 = pc') (H : Wlk G R Z y code ret w J Q h k n pc' Ls st) : Wlk G R Z y code ret w J Q h k n pc Ls (x :: st) := by
  subst hp
  exact Wlk.plain rfl (fun hG T t hA q => XT.pop hA hG.1 rfl (hb hG.2.1 hd) rfl hc q) H
theorem Wlk.dupX1 {x z : Value} (hd : decode code pc = .ok (.dup_x1, 1)) (hc : x.category = 1) (hc' : z.category = 1) (hp : pc + 1 = pc') (H : Wlk G R Z y code ret w J Q h k n pc' Ls (x :: z :: x :: st)) : Wlk G R Z y code ret w J Q h k n pc Ls (x :: z :: st) := by
  subst hp
  exact Wlk.plain rfl (fun hG T t hA q => XT.dupX1 hA hG.1 rfl (hb hG.2.1 hd) rfl hc hc' q) H
theorem Wlk.dup2 {x z : Value} (hd : decode code pc = .ok (.dup2, 1)) (hc : x.category = 1) (hc' : z.category = 1) (hp : pc + 1 = pc') (H : Wlk G R Z y code ret w J Q h k n pc' Ls (x :: z :: x :: z :: st)) : Wlk G R Z y code ret w J Q h k n pc Ls (x :: z :: st) := by
  subst hp
  exact Wlk.plain rfl (fun hG T t hA q => XT.dup2 hA hG.1 rfl (hb hG.2.1 hd) rfl hc hc' q) H
theorem Wlk.istoreN {j : Fin 4} {x : Int32} (hd : decode code pc = .ok (.istore_n j, 1)) (hl : storeLocals Ls j.val (.int x) = some Ls') (hz : Ls'.size = Ls.size) (hp : pc + 1 = pc') (H : Wlk G R Z y code ret w J Q h k n pc' Ls' st) : Wlk G R Z y code ret w J Q h k n pc Ls (.int x :: st) := by
  subst hp
  exact Wlk.plain hz (fun hG T t hA q => XS.istoreN hA hG.1 rfl (hb hG.2.1 hd) rfl hl q) H
theorem Wlk.istore {j : Nat} {x : Int32} (hd : decode code pc = .ok (.istore j, 2)) (hl : storeLocals Ls j (.int x) = some Ls') (hz : Ls'.size = Ls.size) (hp : pc + 2 = pc') (H : Wlk G R Z y code ret w J Q h k n pc' Ls' st) : Wlk G R Z y code ret w J Q h k n pc Ls (.int x :: st) := by
  subst hp
  exact Wlk.plain hz (fun hG T t hA q => XS.istore hA hG.1 rfl (hb hG.2.1 hd) rfl hl q) H
theorem Wlk.astoreN {j : Fin 4} {x : Value} (hd : decode code pc = .ok (.astore_n j, 1)) (hv : x.isRef = true) (hl : storeLocals Ls j.val x = some Ls') (hz : Ls'.size = Ls.size) (hp : pc + 1 = pc') (H : Wlk G R Z y code ret w J Q h k n pc' Ls' st) : Wlk G R Z y code ret w J Q h k n pc Ls (x :: st) := by
  subst hp
  exact Wlk.plain hz (fun hG T t hA q => XS.astoreN hA hG.1 rfl (hb hG.2.1 hd) rfl hv hl q) H
theorem Wlk.astore {j : Nat} {x : Value} (hd : decode code pc = .ok (.astore j, 2)) (hv : x.isRef = true) (hl : storeLocals Ls j x = some Ls') (hz : Ls'.size = Ls.size) (hp : pc + 2 = pc') (H : Wlk G R Z y code ret w J Q h k n pc' Ls' st) : Wlk G R Z y code ret w J Q h k n pc Ls (x :: st) := by
  subst hp
  exact Wlk.plain hz (fun hG T t hA q => XS.astore hA hG.1 rfl (hb hG.2.1 hd) rfl hv hl q) H
theorem Wlk.lstoreN {j : Fin 4} {x : Int64} (hd : decode code pc = .ok (.lstore_n j, 1)) (hl : storeLocals Ls j.val (.long x) = some Ls') (hz : Ls'.size = Ls.size) (hp : pc + 1 = pc') (H : Wlk G R Z y code ret w J Q h k n pc' Ls' st) : Wlk G R Z y code ret w J Q h k n pc Ls (.long x :: st) := by
  subst hp
  exact Wlk.plain hz (fun hG T t hA q => XT.lstoreN hA hG.1 rfl (hb hG.2.1 hd) rfl hl q) H
theorem Wlk.lstore {j : Nat} {x : Int64} (hd : decode code pc = .ok (.lstore j, 2)) (hl : storeLocals Ls j (.long x) = some Ls') (hz : Ls'.size = Ls.size) (hp : pc + 2 = pc') (H : Wlk G R Z y code ret w J Q h k n pc' Ls' st) : Wlk G R Z y code ret w J Q h k n pc Ls (.long x :: st) := by
  subst hp
  exact Wlk.plain hz (fun hG T t hA q => XT.lstore hA hG.1 rfl (hb hG.2.1 hd) rfl hl q) H
theorem Wlk.iinc {j : Nat} {cst : Int} {x v : Int32} (hd : decode code pc = .ok (.iinc j cst, 3)) (hv : Int32.ofInt cst = v) (hl : Ls[j]? = some (.val (.int x))) (hs : storeLocals Ls j (.int (x + v)) = some Ls') (hz : Ls'.size = Ls.size) (hp : pc + 3 = pc') (H : Wlk G R Z y code ret w J Q h k n pc' Ls' st) : Wlk G R Z y code ret w J Q h k n pc Ls st := by
  subst hp
  exact Wlk.plain hz (fun hG T t hA q => XT.iincV hA hG.1 rfl v (hb hG.2.1 hd) hv hl hs q) H
theorem Wlk.goto {o : Int} (hd : decode code pc = .ok (.goto o, 3)) (ho : 0 ≤ (pc : Int) + o) (hp : ((pc : Int) + o).toNat = pc') (H : Wlk G R Z y code ret w J Q h k n pc' Ls st) : Wlk G R Z y code ret w J Q h k n pc Ls st :=
  Wlk.plain rfl (fun hG T t hA q => XS.goto hA hG.1 rfl (pc0 := pc) rfl (hb hG.2.1 hd) ho hp q) H
theorem Wlk.ifT {cd : ClassFile.Cond} {o : Int} {x : Int32} (hd : decode code pc = .ok (.ifCond cd o, 3)) (ho : 0 ≤ (pc : Int) + o) (hp : ((pc : Int) + o).toNat = pc') (c : cT cd x 0) (H : Wlk G R Z y code ret w J Q h k n pc' Ls st) : Wlk G R Z y code ret w J Q h k n pc Ls (.int x :: st) :=
  Wlk.plain rfl (fun hG T t hA q => XS.ifYes hA hG.1 rfl (pc0 := pc) rfl (hb hG.2.1 hd) rfl ((if0 _ _).trans (cT_holds c)) ho hp q) H
theorem Wlk.ifF {cd : ClassFile.Cond} {o : Int} {x : Int32} (hd : decode code pc = .ok (.ifCond cd o, 3)) (c : cF cd x 0) (hp : pc + 3 = pc') (H : Wlk G R Z y code ret w J Q h k n pc' Ls st) : Wlk G R Z y code ret w J Q h k n pc Ls (.int x :: st) := by
  subst hp
  exact Wlk.plain rfl (fun hG T t hA q => XS.ifNo hA hG.1 rfl (hb hG.2.1 hd) rfl ((if0 _ _).trans (cF_holds c)) q) H
theorem Wlk.icT {cd : ClassFile.Cond} {o : Int} {x z : Int32} (hd : decode code pc = .ok (.if_icmp cd o, 3)) (ho : 0 ≤ (pc : Int) + o) (hp : ((pc : Int) + o).toNat = pc') (c : cT cd x z) (H : Wlk G R Z y code ret w J Q h k n pc' Ls st) : Wlk G R Z y code ret w J Q h k n pc Ls (.int z :: .int x :: st) :=
  Wlk.plain rfl (fun hG T t hA q => XS.icmpYes hA hG.1 rfl (pc0 := pc) rfl (hb hG.2.1 hd) rfl (cT_holds c) ho hp q) H
theorem Wlk.icF {cd : ClassFile.Cond} {o : Int} {x z : Int32} (hd : decode code pc = .ok (.if_icmp cd o, 3)) (c : cF cd x z) (hp : pc + 3 = pc') (H : Wlk G R Z y code ret w J Q h k n pc' Ls st) : Wlk G R Z y code ret w J Q h k n pc Ls (.int z :: .int x :: st) := by
  subst hp
  exact Wlk.plain rfl (fun hG T t hA q => XS.icmpNo hA hG.1 rfl (hb hG.2.1 hd) rfl (cF_holds c) q) H
theorem Wlk.if_ {cd : ClassFile.Cond} {o : Int} {x : Int32} {pcT pcF : Nat} (hd : decode code pc = .ok (.ifCond cd o, 3)) (ho : 0 ≤ (pc : Int) + o) (hT : ((pc : Int) + o).toNat = pcT) (hF : pc + 3 = pcF) (H1 : cT cd x 0 → Wlk G R Z y code ret w J Q h k n pcT Ls st) (H2 : cF cd x 0 → Wlk G R Z y code ret w J Q h k n pcF Ls st) : Wlk G R Z y code ret w J Q h k n pc Ls (.int x :: st) :=
  (cTF cd x 0).elim (fun c => Wlk.ifT hd ho hT c (H1 c)) (fun c => Wlk.ifF hd c hF (H2 c))
theorem Wlk.ic_ {cd : ClassFile.Cond} {o : Int} {x z : Int32} {pcT pcF : Nat} (hd : decode code pc = .ok (.if_icmp cd o, 3)) (ho : 0 ≤ (pc : Int) + o) (hT : ((pc : Int) + o).toNat = pcT) (hF : pc + 3 = pcF) (H1 : cT cd x z → Wlk G R Z y code ret w J Q h k n pcT Ls st) (H2 : cF cd x z → Wlk G R Z y code ret w J Q h k n pcF Ls st) : Wlk G R Z y code ret w J Q h k n pc Ls (.int z :: .int x :: st) :=
  (cTF cd x z).elim (fun c => Wlk.icT hd ho hT c (H1 c)) (fun c => Wlk.icF hd c hF (H2 c))
theorem Wlk.ifnullT {o : Int} (hd : decode code pc = .ok (.ifnull o, 3)) (ho : 0 ≤ (pc : Int) + o) (hp : ((pc : Int) + o).toNat = pc') (H : Wlk G R Z y code ret w J Q h k n pc' Ls st) : Wlk G R Z y code ret w J Q h k n pc Ls (.null :: st) :=
  Wlk.plain rfl (fun hG T t hA q => XS.ifnullYes hA hG.1 rfl (pc0 := pc) rfl (hb hG.2.1 hd) rfl ho hp q) H
theorem Wlk.ifnullF {o : Int} {b : Addr} (hd : decode code pc = .ok (.ifnull o, 3)) (hp : pc + 3 = pc') (H : Wlk G R Z y code ret w J Q h k n pc' Ls st) : Wlk G R Z y code ret w J Q h k n pc Ls (.ref b :: st) := by
  subst hp
  exact Wlk.plain rfl (fun hG T t hA q => XS.ifnullNo hA hG.1 rfl (hb hG.2.1 hd) rfl q) H
theorem Wlk.ifnonnullT {o : Int} {b : Addr} (hd : decode code pc = .ok (.ifnonnull o, 3)) (ho : 0 ≤ (pc : Int) + o) (hp : ((pc : Int) + o).toNat = pc') (H : Wlk G R Z y code ret w J Q h k n pc' Ls st) : Wlk G R Z y code ret w J Q h k n pc Ls (.ref b :: st) :=
  Wlk.plain rfl (fun hG T t hA q => XT.ifnonnullYes hA hG.1 rfl (pc0 := pc) rfl (hb hG.2.1 hd) rfl ho hp q) H
theorem Wlk.ifnonnullF {o : Int} (hd : decode code pc = .ok (.ifnonnull o, 3)) (hp : pc + 3 = pc') (H : Wlk G R Z y code ret w J Q h k n pc' Ls st) : Wlk G R Z y code ret w J Q h k n pc Ls (.null :: st) := by
  subst hp
  exact Wlk.plain rfl (fun hG T t hA q => XT.ifnonnullNo hA hG.1 rfl (hb hG.2.1 hd) rfl q) H
theorem Wlk.acmp {cd : ACond} {o : Int} {x z : Value} {same : Bool} (hd : decode code pc = .ok (.if_acmp cd o, 3)) (h1 : x.isRef = true) (h2 : z.isRef = true) (hq : decide (x = z) = same) (ho : 0 ≤ (pc : Int) + o) (hp : pc' = if acV cd same = true then ((pc : Int) + o).toNat else pc + 3) (H : Wlk G R Z y code ret w J Q h k n pc' Ls st) : Wlk G R Z y code ret w J Q h k n pc Ls (z :: x :: st) :=
  Wlk.reads rfl (fun vm0 T L hG hsz X eT hZ hown hE => ⟨T, X, eT, fun t q => Jvm.RoadKit.acmp (g := mkF G.m pc Ls (z :: x :: st)) X hG.1 rfl h1 h2 (pc0 := pc) rfl (hb hG.2.1 hd) rfl hq ho hp q⟩) H
theorem Wlk.ldcI {index : Nat} {v : Int32} (hd : decode code pc = .ok (.ldc index, 2)) (wd : (Cond.constant y.cls index v).before a0 Z = true) (hp : pc + 2 = pc') (H : Wlk G R Z y code ret w J Q h k n pc' Ls (.int v :: st)) : Wlk G R Z y code ret w J Q h k n pc Ls st := by
  subst hp
  exact Wlk.reads rfl (fun vm0 T L hG hsz X eT hZ hown hE => ⟨T, X, eT, fun t q => X.ldcI hG.1 hown (mvT hZ wd) (g := mkF G.m pc Ls st) rfl (hb hG.2.1 hd) q⟩) H
theorem Wlk.ldcWI {index : Nat} {v : Int32} (hd : decode code pc = .ok (.ldc_w index, 3)) (wd : (Cond.constant y.cls index v).before a0 Z = true) (hp : pc + 3 = pc') (H : Wlk G R Z y code ret w J Q h k n pc' Ls (.int v :: st)) : Wlk G R Z y code ret w J Q h k n pc Ls st := by
  subst hp
  exact Wlk.reads rfl (fun vm0 T L hG hsz X eT hZ hown hE => ⟨T, X, eT, fun t q => X.ldcWI hG.1 hown (mvT hZ wd) (g := mkF G.m pc Ls st) rfl (hb hG.2.1 hd) q⟩) H
theorem Wlk.ldc2J {index : Nat} {v : Int64} (hd : decode code pc = .ok (.ldc2_w index, 3)) (wd : (Cond.constantLong y.cls index v).before a0 Z = true) (hp : pc + 3 = pc') (H : Wlk G R Z y code ret w J Q h k n pc' Ls (.long v :: st)) : Wlk G R Z y code ret w J Q h k n pc Ls st := by
  subst hp
  exact Wlk.reads rfl (fun vm0 T L hG hsz X eT hZ hown hE => ⟨T, X, eT, fun t q => X.ldc2J hG.1 hown (mvT hZ wd) (g := mkF G.m pc Ls st) rfl (hb hG.2.1 hd) q⟩) H
theorem Wlk.getF {index : Nat} {R0 O nm d : String} {a : Addr} {v : Value} (hd : decode code pc = .ok (.getfield index, 3)) (wl : (Cond.fieldLink y.cls index R0 nm d).before a0 Z = true) (via : Via Z R0 O nm d) (F : Fld Z h a O nm d v) (hp : pc + 3 = pc') (H : Wlk G R Z y code ret w J Q h k n pc' Ls (v :: st)) : Wlk G R Z y code ret w J Q h k n pc Ls (.ref a :: st) := by
  subst hp
  exact Wlk.reads rfl (fun vm0 T L hG hsz X eT hZ hown hE => Jvm.RoadKit.getF X hG.1 hZ hown (host := "") (Or.inl wl) via eT F (g := mkF G.m pc Ls (.ref a :: st)) rfl rfl (hb hG.2.1 hd)) H
theorem Wlk.getS {index : Nat} {R0 O nm d : String} {v : Value} (hd : decode code pc = .ok (.getstatic index, 3)) (wl : (Cond.fieldLink y.cls index R0 nm d).before a0 Z = true) (via : Via Z R0 O nm d) (F : Sta Z Z.heap O nm d v) (hp : pc + 3 = pc') (H : Wlk G R Z y code ret w J Q h k n pc' Ls (v :: st)) : Wlk G R Z y code ret w J Q h k n pc Ls st := by
  subst hp
  exact Wlk.reads rfl (fun vm0 T L hG hsz X eT hZ hown hE => Jvm.RoadKit.getS (host := "") X hG.1 hZ hown wl via eT (F.ext hE) (g := mkF G.m pc Ls st) rfl (hb hG.2.1 hd)) H
theorem Wlk.castY {index : Nat} {K : String} {a : Addr} (hd : decode code pc = .ok (.checkcast index, 3)) (wl : (Cond.classLink y.cls index K).before a0 Z = true) (F : Ins Z h a K true) (hp : pc + 3 = pc') (H : Wlk G R Z y code ret w J Q h k n pc' Ls (.ref a :: st)) : Wlk G R Z y code ret w J Q h k n pc Ls (.ref a :: st) := by
  subst hp
  exact Wlk.reads rfl (fun vm0 T L hG hsz X eT hZ hown hE => Jvm.RoadKit.castY X hG.1 hZ hown wl eT F (g := mkF G.m pc Ls (.ref a :: st)) rfl rfl (hb hG.2.1 hd)) H
theorem Wlk.castNull {index : Nat} (hd : decode code pc = .ok (.checkcast index, 3)) (hp : pc + 3 = pc') (H : Wlk G R Z y code ret w J Q h k n pc' Ls (.null :: st)) : Wlk G R Z y code ret w J Q h k n pc Ls (.null :: st) := by
  subst hp
  exact Wlk.reads rfl (fun vm0 T L hG hsz X eT hZ hown hE => ⟨T, X, eT, fun t q => X.checkcastNull hG.1 (g := mkF G.m pc Ls (.null :: st)) rfl rfl (hb hG.2.1 hd) t q⟩) H
theorem Wlk.instY {index : Nat} {K : String} {a : Addr} (hd : decode code pc = .ok (.instanceof index, 3)) (wl : (Cond.classLink y.cls index K).before a0 Z = true) (F : Ins Z h a K true) (hp : pc + 3 = pc') (H : Wlk G R Z y code ret w J Q h k n pc' Ls (.int 1 :: st)) : Wlk G R Z y code ret w J Q h k n pc Ls (.ref a :: st) := by
  subst hp
  exact Wlk.reads rfl (fun vm0 T L hG hsz X eT hZ hown hE => Jvm.RoadKit.instY X hG.1 hZ hown wl eT F (g := mkF G.m pc Ls (.ref a :: st)) rfl rfl (hb hG.2.1 hd)) H
theorem Wlk.instNull {index : Nat} (hd : decode code pc = .ok (.instanceof index, 3)) (hp : pc + 3 = pc') (H : Wlk G R Z y code ret w J Q h k n pc' Ls (.int 0 :: st)) : Wlk G R Z y code ret w J Q h k n pc Ls (.null :: st) := by
  subst hp
  exact Wlk.reads rfl (fun vm0 T L hG hsz X eT hZ hown hE => ⟨T, X, eT, fun t q => X.instanceofNull hG.1 (g := mkF G.m pc Ls (.null :: st)) rfl rfl (hb hG.2.1 hd) t q⟩) H
theorem Wlk.initO {index : Nat} {a : Addr} {W : Nat} (hd : decode code pc = .ok (.invokespecial index, 3)) (w1 : (Cond.methodLink y.cls index Lib.objectInit).before a0 Z = true) (w2 : (Cond.instanceMethod Lib.objectInit).before a0 Z = true) (w3 : (Cond.code Lib.objectInit ⟨#[0xb1]⟩ 1 none).before a0 Z = true)
    (hf : 1 ≤ R.frames) (hW : (st.map fun v => v.category).sum = W) (hl : W + 12 ≤ R.locals) (hp : pc + 3 = pc') (H : Wlk G R Z y code ret w J Q h k n pc' Ls st) : Wlk G R Z y code ret w J Q h k n pc Ls (.ref a :: st) := by
  subst hp
  exact Wlk.reads rfl (fun vm0 T L hG hsz X eT hZ hown hE => Jvm.RoadKit.initO X hG.1 hZ hown w1 w2 w3 eT (g := mkF G.m pc Ls (.ref a :: st)) rfl hsz rfl (hb hG.2.1 hd) hf (W := W) (by show 2 * 0 + _ ≤ _; omega) hl) H
theorem Wlk.newO {index sl : Nat} {C : String} (hd : decode code pc = .ok (.new index, 3)) (wl : (Cond.classLink y.cls index C).before a0 Z = true) (wi : (Cond.instantiable C sl).before a0 Z = true) (wz : (Cond.initialized C).before a0 Z = true) (hc : k + 1 ≤ R.cells) (hl : n + sl ≤ R.slots) (hp : pc + 3 = pc')
    (H : ∀ (a : Addr) (h' : Heap), h.size ≤ a → Z.heap.size ≤ a → Ext h h' → Exa Z h' a C → (∀ {O nm d : String} {ty : FieldType}, Laid Z a0 C O nm d → parseFieldDescriptor d = some ty → Fld Z h' a O nm d (defaultValue ty)) → Wlk G R Z y code ret w J Q h' (k + 1) (n + sl) pc' Ls (.ref a :: st)) : Wlk G R Z y code ret w J Q h k n pc Ls st := by
  subst hp
  refine Wlk.moves (P := fun h' => Z.heap.size ≤ h.size ∧ Ext h h' ∧ Exa Z h' h.size C ∧ (∀ {O nm d : String} {ty : FieldType}, Laid Z a0 C O nm d → parseFieldDescriptor d = some ty → Fld Z h' h.size O nm d (defaultValue ty))) (st' := .ref h.size :: st) rfl (fun vm0 T L hG hsz X eT hZ hown hE hF => ?_) (fun h' q => H h.size h' (Nat.le_refl _) q.1 q.2.1 q.2.2.1 q.2.2.2)
  obtain ⟨T', h', X', e', E', A', D', -, s'⟩ := Jvm.RoadKit.newO X hG.1 hZ hown wl wi wz eT (g := mkF G.m pc Ls st) rfl (hb hG.2.1 hd) hc hl
  exact ⟨T', h', L, X', e', E'.1, ⟨Nat.le_trans hE.1 E'.1, fun a c q => E'.2 a c (hE.2 a c q)⟩, hF, ⟨hE.1, E', A', D'⟩, s'⟩
theorem Wlk.newP {aty : ArrayType} {z : Int32} {cap : Nat} {ty : FieldType} (hd : decode code pc = .ok (.newarray aty, 2)) (hty : newarray.typeOf aty = ty) (wl : (Cond.arrayClass ty).before a0 Z = true) (hn : ¬ z < 0) (hcap : z.toNatClampNeg ≤ cap) (hbig : cap * 8 ≤ 536870912) (hc : k + 1 ≤ R.cells) (hl : n + cap ≤ R.slots) (hp : pc + 2 = pc')
    (H : ∀ (a : Addr) (h' : Heap) (kc : ClassId), h.size ≤ a → Z.heap.size ≤ a → Ext h h' → Arv Z h' a kc ty z [] (defaultValue ty) → Wlk G R Z y code ret w J Q h' (k + 1) (n + cap) pc' Ls (.ref a :: st)) : Wlk G R Z y code ret w J Q h k n pc Ls (.int z :: st) := by
  subst hp hty
  refine Wlk.moves (P := fun h' => Z.heap.size ≤ h.size ∧ Ext h h' ∧ ∃ kc, Arv Z h' h.size kc (newarray.typeOf aty) z [] (defaultValue (newarray.typeOf aty))) (st' := .ref h.size :: st) rfl (fun vm0 T L hG hsz X eT hZ hown hE hF => ?_) (fun h' q => q.2.2.elim fun kc A => H h.size h' kc (Nat.le_refl _) q.1 q.2.1 A)
  obtain ⟨T', h', cA, X', e', E', A', s'⟩ := Jvm.RoadKit.newP X hG.1 hZ wl eT (g := mkF G.m pc Ls (.int z :: st)) rfl (hb hG.2.1 hd) rfl hn hcap hbig hc hl
  exact ⟨T', h', L, X', e', E'.1, ⟨Nat.le_trans hE.1 E'.1, fun a c q => E'.2 a c (hE.2 a c q)⟩, hF, ⟨hE.1, E', cA, Arv.new A' hn⟩, s'⟩
theorem Wlk.newR {index : Nat} {C : String} {z : Int32} {cap : Nat} (hd : decode code pc = .ok (.anewarray index, 3)) (wl : (Cond.classLink y.cls index C).before a0 Z = true) (w2 : (Cond.arrayOver (.object C)).before a0 Z = true) (hn : ¬ z < 0) (hcap : z.toNatClampNeg ≤ cap) (hbig : cap * 8 ≤ 536870912) (hc : k + 1 ≤ R.cells) (hl : n + cap ≤ R.slots) (hp : pc + 3 = pc')
    (H : ∀ (a : Addr) (h' : Heap) (kc : ClassId), h.size ≤ a → Z.heap.size ≤ a → Ext h h' → Ovr Z kc C → Arv Z h' a kc (.object C) z [] .null → Wlk G R Z y code ret w J Q h' (k + 1) (n + cap) pc' Ls (.ref a :: st)) : Wlk G R Z y code ret w J Q h k n pc Ls (.int z :: st) := by
  subst hp
  refine Wlk.moves (P := fun h' => Z.heap.size ≤ h.size ∧ Ext h h' ∧ ∃ kc, Ovr Z kc C ∧ Arv Z h' h.size kc (.object C) z [] .null) (st' := .ref h.size :: st) rfl (fun vm0 T L hG hsz X eT hZ hown hE hF => ?_) (fun h' q => q.2.2.elim fun kc A => H h.size h' kc (Nat.le_refl _) q.1 q.2.1 A.1 A.2)
  obtain ⟨T', h', cA, X', e', E', A', O', s'⟩ := Jvm.RoadKit.newR X hG.1 hZ hown wl w2 eT (g := mkF G.m pc Ls (.int z :: st)) rfl (hb hG.2.1 hd) rfl hn hcap hbig hc hl
  exact ⟨T', h', L, X', e', E'.1, ⟨Nat.le_trans hE.1 E'.1, fun a c q => E'.2 a c (hE.2 a c q)⟩, hF, ⟨hE.1, E', cA, O', Arv.new A' hn⟩, s'⟩
theorem ext_wr {a : Addr} {sl : Nat} {v : Value} {h' : Heap} (hE : Ext Z.heap h) (g : Z.heap.size ≤ a) (W : Wr h h' a sl v) : Ext Z.heap h' := (Old.wr (n0 := Z.heap.size) ⟨rfl, hE⟩ W g).2
theorem Wlk.putF {index sl : Nat} {R0 O nm d C : String} {a : Addr} {v old : Value} {ty : FieldType} (hd : decode code pc = .ok (.putfield index, 3)) (wl : (Cond.fieldLink y.cls index R0 nm d).before a0 Z = true) (via : Via Z R0 O nm d) (F : Fld Z h a O nm d old) (E : Exa Z h a C) (LY : (Cond.lays C O nm d).before a0 Z = true ∨ ((Cond.laysFinal C O nm d).before a0 Z = true ∧ y.cls = O ∧ y.name = "<init>")) (wi : (Cond.instantiable C sl).before a0 Z = true)
    (hty : parseFieldDescriptor d = some ty) (hn : narrow ty v = v) (hf : fits ty v = true) (g : Z.heap.size ≤ a) (hp : pc + 3 = pc') (H : ∀ h', Wr h h' a (Jvm.RoadKit.slotOf Z O nm d) v → Wlk G R Z y code ret w J Q h' k n pc' Ls st) : Wlk G R Z y code ret w J Q h k n pc Ls (v :: .ref a :: st) := by
  subst hp
  refine Wlk.moves (P := fun h' => Wr h h' a (Jvm.RoadKit.slotOf Z O nm d) v) rfl (fun vm0 T L hG hsz X eT hZ hown hE hF => ?_) H
  obtain ⟨T', h', X', e', W', s'⟩ := Jvm.RoadKit.putF X hG.1 hZ hown (host := "") (Or.inl wl) via eT F E (LY.imp id fun q => ⟨q.1, q.2.1, hG.2.2.2.2.trans q.2.2⟩) wi hty hn hf (g := mkF G.m pc Ls (v :: .ref a :: st)) rfl rfl (hb hG.2.1 hd)
  exact ⟨T', h', _, X', e', Nat.le_of_eq W'.size.symm, ext_wr hE g W', Fr.snoc X' hF g, W', s'⟩
theorem Wlk.castore {a : Addr} {kc : ClassId} {z j x : Int32} {vs : List Value} {d : Value} {i : Nat} (hd : decode code pc = .ok (.castore, 1)) (A : Arv Z h a kc .char z vs d) (hj : ¬ j < 0 ∧ j < z) (hi : j.toNatClampNeg = i) (hv : i < vs.length) (g : Z.heap.size ≤ a) (hp : pc + 1 = pc')
    (H : ∀ h', Wr h h' a i (.int (nar .char x)) → Arv Z h' a kc .char z (vs.set i (.int (nar .char x))) d → Wlk G R Z y code ret w J Q h' k n pc' Ls st) : Wlk G R Z y code ret w J Q h k n pc Ls (.int x :: .int j :: .ref a :: st) := by
  subst hp hi
  obtain ⟨cl, Ar, q1, S, N, HH, GG⟩ := A
  refine Wlk.moves (P := fun h' => Wr h h' a j.toNatClampNeg (.int (nar .char x))) rfl (fun vm0 T L hG hsz X eT hZ hown hE hF => ?_) (fun h' W => H h' W (Arv.set Ar q1 S N HH GG (fits_nar_char x) W j.toNatClampNeg rfl hv))
  obtain ⟨T', h', X', e', W', s'⟩ := Jvm.RoadKit.stC X hG.1 hZ eT Ar (j := j) (inb_of S hj) (g := mkF G.m pc Ls (.int x :: .int j :: .ref a :: st)) rfl rfl (hb hG.2.1 hd)
  exact ⟨T', h', _, X', e', Nat.le_of_eq W'.size.symm, ext_wr hE g W', Fr.snoc X' hF g, W', s'⟩
theorem Wlk.bastore {a : Addr} {kc : ClassId} {z j x : Int32} {vs : List Value} {d : Value} {i : Nat} (hd : decode code pc = .ok (.bastore, 1)) (A : Arv Z h a kc .byte z vs d) (hj : ¬ j < 0 ∧ j < z) (hi : j.toNatClampNeg = i) (hv : i < vs.length) (g : Z.heap.size ≤ a) (hp : pc + 1 = pc')
    (H : ∀ h', Wr h h' a i (.int (nar .byte x)) → Arv Z h' a kc .byte z (vs.set i (.int (nar .byte x))) d → Wlk G R Z y code ret w J Q h' k n pc' Ls st) : Wlk G R Z y code ret w J Q h k n pc Ls (.int x :: .int j :: .ref a :: st) := by
  subst hp hi
  obtain ⟨cl, Ar, q1, S, N, HH, GG⟩ := A
  refine Wlk.moves (P := fun h' => Wr h h' a j.toNatClampNeg (.int (nar .byte x))) rfl (fun vm0 T L hG hsz X eT hZ hown hE hF => ?_) (fun h' W => H h' W (Arv.set Ar q1 S N HH GG (fits_nar_byte x) W j.toNatClampNeg rfl hv))
  obtain ⟨T', h', X', e', W', s'⟩ := Jvm.RoadKit.stB X hG.1 hZ eT Ar (j := j) (inb_of S hj) (g := mkF G.m pc Ls (.int x :: .int j :: .ref a :: st)) rfl rfl (hb hG.2.1 hd)
  exact ⟨T', h', _, X', e', Nat.le_of_eq W'.size.symm, ext_wr hE g W', Fr.snoc X' hF g, W', s'⟩
theorem Wlk.iastore {a : Addr} {kc : ClassId} {z j x : Int32} {vs : List Value} {d : Value} {i : Nat} (hd : decode code pc = .ok (.iastore, 1)) (A : Arv Z h a kc .int z vs d) (hj : ¬ j < 0 ∧ j < z) (hi : j.toNatClampNeg = i) (hv : i < vs.length) (g : Z.heap.size ≤ a) (hp : pc + 1 = pc')
    (H : ∀ h', Wr h h' a i (.int x) → Arv Z h' a kc .int z (vs.set i (.int x)) d → Wlk G R Z y code ret w J Q h' k n pc' Ls st) : Wlk G R Z y code ret w J Q h k n pc Ls (.int x :: .int j :: .ref a :: st) := by
  subst hp hi
  obtain ⟨cl, Ar, q1, S, N, HH, GG⟩ := A
  refine Wlk.moves (P := fun h' => Wr h h' a j.toNatClampNeg (.int x)) rfl (fun vm0 T L hG hsz X eT hZ hown hE hF => ?_) (fun h' W => H h' W (Arv.set Ar q1 S N HH GG (rfl) W j.toNatClampNeg rfl hv))
  obtain ⟨T', h', X', e', W', s'⟩ := Jvm.RoadKit.stI X hG.1 hZ eT Ar (j := j) (inb_of S hj) (g := mkF G.m pc Ls (.int x :: .int j :: .ref a :: st)) rfl rfl (hb hG.2.1 hd)
  exact ⟨T', h', _, X', e', Nat.le_of_eq W'.size.symm, ext_wr hE g W', Fr.snoc X' hF g, W', s'⟩
theorem Wlk.aastore {a : Addr} {kc : ClassId} {z j : Int32} {v : Value} {vs : List Value} {d : Value} {i : Nat} {ty : FieldType} (hd : decode code pc = .ok (.aastore, 1)) (A : Arv Z h a kc ty z vs d) (hty : ty.isReference = true) (hfv : fits ty v = true) (F : Sto Z h a v) (hj : ¬ j < 0 ∧ j < z) (hi : j.toNatClampNeg = i) (hv : i < vs.length) (g : Z.heap.size ≤ a) (hp : pc + 1 = pc')
    (H : ∀ h', Wr h h' a i v → Arv Z h' a kc ty z (vs.set i v) d → Wlk G R Z y code ret w J Q h' k n pc' Ls st) : Wlk G R Z y code ret w J Q h k n pc Ls (v :: .int j :: .ref a :: st) := by
  subst hp hi
  obtain ⟨cl, Ar, q1, S, N, HH, GG⟩ := A
  refine Wlk.moves (P := fun h' => Wr h h' a j.toNatClampNeg v) rfl (fun vm0 T L hG hsz X eT hZ hown hE hF => ?_) (fun h' W => H h' W (Arv.set Ar q1 S N HH GG hfv W j.toNatClampNeg rfl hv))
  obtain ⟨T', h', X', e', W', s'⟩ := Jvm.RoadKit.stR X hG.1 hZ eT Ar (j := j) (inb_of S hj) hty F (g := mkF G.m pc Ls (v :: .int j :: .ref a :: st)) rfl rfl (hb hG.2.1 hd)
  exact ⟨T', h', _, X', e', Nat.le_of_eq W'.size.symm, ext_wr hE g W', Fr.snoc X' hF g, W', s'⟩
theorem Wlk.caload {a : Addr} {kc : ClassId} {z j : Int32} {vs : List Value} {d v : Value} (hd : decode code pc = .ok (.caload, 1)) (A : Arv Z h a kc .char z vs d) (hj : ¬ j < 0 ∧ j < z) (hv : vs.getD j.toNatClampNeg d = v) (hp : pc + 1 = pc') (H : Wlk G R Z y code ret w J Q h k n pc' Ls (v :: st)) : Wlk G R Z y code ret w J Q h k n pc Ls (.int j :: .ref a :: st) := by
  subst hp
  obtain ⟨cl, Ar, q1, S, N, HH, GG⟩ := A
  have hin := inb_of S hj
  exact Wlk.reads rfl (fun vm0 T L hG hsz X eT hZ hown hE => ⟨T, X, eT, fun t q => X.caload hG.1 (j := j) (v := v) (by rw [eT]; exact Ar.1) (State.isArrayOf_alike hZ.alike Ar.2.1) Ar.2.2 hin (Has.at HH hin hv) (g := mkF G.m pc Ls (.int j :: .ref a :: st)) rfl rfl (hb hG.2.1 hd) t q⟩) H
theorem Wlk.baload {a : Addr} {kc : ClassId} {z j : Int32} {vs : List Value} {d v : Value} (hd : decode code pc = .ok (.baload, 1)) (A : Arv Z h a kc .byte z vs d) (hj : ¬ j < 0 ∧ j < z) (hv : vs.getD j.toNatClampNeg d = v) (hp : pc + 1 = pc') (H : Wlk G R Z y code ret w J Q h k n pc' Ls (v :: st)) : Wlk G R Z y code ret w J Q h k n pc Ls (.int j :: .ref a :: st) := by
  subst hp
  obtain ⟨cl, Ar, q1, S, N, HH, GG⟩ := A
  have hin := inb_of S hj
  exact Wlk.reads rfl (fun vm0 T L hG hsz X eT hZ hown hE => ⟨T, X, eT, fun t q => X.baloadBytes hG.1 (j := j) (v := v) (by rw [eT]; exact Ar.1) (State.isArrayOf_alike hZ.alike Ar.2.1) Ar.2.2 hin (Has.at HH hin hv) (g := mkF G.m pc Ls (.int j :: .ref a :: st)) rfl rfl (hb hG.2.1 hd) t q⟩) H
theorem Wlk.iaload {a : Addr} {kc : ClassId} {z j : Int32} {vs : List Value} {d v : Value} (hd : decode code pc = .ok (.iaload, 1)) (A : Arv Z h a kc .int z vs d) (hj : ¬ j < 0 ∧ j < z) (hv : vs.getD j.toNatClampNeg d = v) (hp : pc + 1 = pc') (H : Wlk G R Z y code ret w J Q h k n pc' Ls (v :: st)) : Wlk G R Z y code ret w J Q h k n pc Ls (.int j :: .ref a :: st) := by
  subst hp
  obtain ⟨cl, Ar, q1, S, N, HH, GG⟩ := A
  have hin := inb_of S hj
  exact Wlk.reads rfl (fun vm0 T L hG hsz X eT hZ hown hE => ⟨T, X, eT, fun t q => X.iaload hG.1 (j := j) (v := v) (by rw [eT]; exact Ar.1) (State.isArrayOf_alike hZ.alike Ar.2.1) Ar.2.2 hin (Has.at HH hin hv) (g := mkF G.m pc Ls (.int j :: .ref a :: st)) rfl rfl (hb hG.2.1 hd) t q⟩) H
theorem Wlk.aaload {a : Addr} {kc : ClassId} {z j : Int32} {vs : List Value} {d v : Value} {ty : FieldType} (hd : decode code pc = .ok (.aaload, 1)) (A : Arv Z h a kc ty z vs d) (hty : ty.isReference = true) (hj : ¬ j < 0 ∧ j < z) (hv : vs.getD j.toNatClampNeg d = v) (hp : pc + 1 = pc') (H : Wlk G R Z y code ret w J Q h k n pc' Ls (v :: st)) : Wlk G R Z y code ret w J Q h k n pc Ls (.int j :: .ref a :: st) := by
  subst hp
  obtain ⟨cl, Ar, q1, S, N, HH, GG⟩ := A
  have hin := inb_of S hj
  exact Wlk.reads rfl (fun vm0 T L hG hsz X eT hZ hown hE => ⟨T, X, eT, fun t q => X.aaload hG.1 (j := j) (v := v) (by rw [eT]; exact Ar.1) (State.isArrayOf_alike hZ.alike Ar.2.1) hty Ar.2.2 hin (Has.at HH hin hv) (g := mkF G.m pc Ls (.int j :: .ref a :: st)) rfl rfl (hb hG.2.1 hd) t q⟩) H
theorem Wlk.arraylength {a : Addr} {kc : ClassId} {z : Int32} {vs : List Value} {d : Value} {ty : FieldType} (hd : decode code pc = .ok (.arraylength, 1)) (A : Arv Z h a kc ty z vs d) (hp : pc + 1 = pc') (H : Wlk G R Z y code ret w J Q h k n pc' Ls (.int z :: st)) : Wlk G R Z y code ret w J Q h k n pc Ls (.ref a :: st) := by
  subst hp
  obtain ⟨cl, Ar, q1, S, N, HH, GG⟩ := A
  exact Wlk.reads rfl (fun vm0 T L hG hsz X eT hZ hown hE => ⟨T, X, eT, fun t q => X.arraylength hG.1 (by rw [eT]; exact Ar.1) (State.isArrayOf_alike hZ.alike Ar.2.1) (g := mkF G.m pc Ls (.ref a :: st)) rfl rfl (hb hG.2.1 hd) t (by rw [len_of S N]; exact q)⟩) H
/-! ## the ends -/
theorem Wlk.leaves {v : Option Value} (hv : ret = none → v = none) (hstep : ∀ (vm0 : Vm) (T : State) (L : List Loc) (fs : List Frame), Cok G y code ret → Stand G.p G.l G.e R (G.s.setVm vm0) G.m G.args G.below G.meth G.c T L k n → (∀ (f : JFrame) (acts : List Action), f.method = G.m → f.locked = none → f.entered = [] → (doReturn G.e (T.setTop f) acts v).1 = T.setFrames fs) → Steps G.p.tables G.e G.below (T.setTop (mkF G.m pc Ls st)) (T.setFrames fs))
    (hc : k ≤ R.cells) (hs : n ≤ R.slots) (hq : Q v h J) : Wlk G R Z y code ret w J Q h k n pc Ls st := by
  intro hG hsz T L hP
  obtain ⟨vm0, k0, X, eT, hS, hk, hZ, hown, hw, hB, hE, hF⟩ := hP
  obtain ⟨fs, hr, hrun, hended, hend⟩ := (X.more hc hs).leaveW hS (by rw [eT]; exact hk) (v := v) (fun q => hv (hG.2.2.1.symm.trans q)) hG.2.2.2.1
  have eh : (T.setFrames fs).heap = h := eT
  refine ⟨_, _, hstep vm0 T L fs hG X hr, hrun, hended, v, L, J, rfl, ⟨by rw [eh]; exact hq, hF, by rw [eh]; exact hE, fun q => Books.warm (s := G.s) (hB q) X.warmed⟩, hend, fun q => ?_⟩
  have q' := hw q
  subst q'
  exact X.warmed
theorem Wlk.ireturnN {z : Int32} {t : FieldType} (hd : decode code pc = .ok (.ireturn, 1)) (hret : ret = some t) (ht : t = .boolean ∨ t = .byte ∨ t = .char ∨ t = .short) (hc : k ≤ R.cells) (hs : n ≤ R.slots) (hq : Q (some (.int (nar t z))) h J) : Wlk G R Z y code ret w J Q h k n pc Ls (.int z :: st) :=
  Wlk.leaves (fun q => by rw [hret] at q; cases q) (fun vm0 T L fs hG X hr => retN X hG.1 (hG.2.2.1.trans hret) ht (hb hG.2.1 hd) hr) hc hs hq
theorem Wlk.ireturnI {z : Int32} (hd : decode code pc = .ok (.ireturn, 1)) (hret : ret = some .int) (hc : k ≤ R.cells) (hs : n ≤ R.slots) (hq : Q (some (.int z)) h J) : Wlk G R Z y code ret w J Q h k n pc Ls (.int z :: st) :=
  Wlk.leaves (fun q => by rw [hret] at q; cases q) (fun vm0 T L fs hG X hr => retOut X hG.1 (hG.2.2.1.trans hret) rfl (Or.inl ⟨rfl, Or.inl rfl, z, rfl⟩) (hb hG.2.1 hd) hr) hc hs hq
theorem Wlk.areturn {v : Value} {t : FieldType} (hd : decode code pc = .ok (.areturn, 1)) (hret : ret = some t) (ht : t.isReference = true) (hv : v.isRef = true) (hn : narrow t v = v) (hc : k ≤ R.cells) (hs : n ≤ R.slots) (hq : Q (some v) h J) : Wlk G R Z y code ret w J Q h k n pc Ls (v :: st) :=
  Wlk.leaves (fun q => by rw [hret] at q; cases q) (fun vm0 T L fs hG X hr => retOut X hG.1 (hG.2.2.1.trans hret) hn (Or.inr (Or.inr (Or.inr (Or.inr ⟨rfl, ht, hv⟩)))) (hb hG.2.1 hd) hr) hc hs hq
theorem Wlk.return_ (hd : decode code pc = .ok (.return_, 1)) (hret : ret = none) (hc : k ≤ R.cells) (hs : n ≤ R.slots) (hq : Q none h J) : Wlk G R Z y code ret w J Q h k n pc Ls [] :=
  Wlk.leaves (fun _ => rfl) (fun vm0 T L fs hG X hr => X.returnOut hG.1 (hG.2.2.1.trans hret) (hb hG.2.1 hd) hr) hc hs hq
/-! ## calls -/
theorem Met.narrow {l : Launch} {y : MethodName} {zc : ByteArray} {zm : Nat} {zr : Option FieldType} {rm : Room} {as' : Array Value} {J0 : JJ} {Q' : Option Value → Heap → JJ → Prop} (M : Met l Z y zc zm zr false [] rm as' h J0 Q') (hE : Ext Z.heap h) :
    MetFree l y (head1 [Jvm.Cond.code y zc zm zr] rm) (fun a U => a = as' ∧ Z.Warmed39 U.vm ∧ U.heap = h) (fun _ _ _ _ _ => True) (fun _ U o U' => ∃ v L, o = .returned v ∧ ((∃ J', Q' v U'.heap J') ∧ Fr Z.heap.size L ∧ Ext Z.heap U'.heap ∧ h.size ≤ U'.heap.size) ∧ FrameEnd U o U' L rm.cells rm.slots) := by
  intro p e ha hc hk s m args below hf happ hP hK
  obtain ⟨n, o, h1, h2, h3, v, L, J', h4, ⟨h5, h6, h7, -⟩, h8, h9⟩ := M p e ha hc hk s m args below hf happ ⟨hP.1, hP.2.1, hP.2.2, hE, nofun⟩ hK
  exact ⟨n, o, h1, h2, h3, v, L, h4, ⟨⟨J', h5⟩, h6, h7, by have q := h8.2.2.2.2.1; rw [← hP.2.2]; exact q⟩, ⟨v, h4⟩, h9 rfl, h8.2.2.2⟩
theorem Met.wideBack {l : Launch} {p : Program} {e : Env} {s : State} {args : Array Value} {below : List Frame} {y : MethodName} {zc : ByteArray} {zm : Nat} {zr : Option FieldType} {rm : Room} {as' : Array Value} {J : JJ} {len W : Nat} {Q' : Option Value → Heap → JJ → Prop} (M : Met l Z y zc zm zr true [] rm as' h J Q') (hZ : Z.Warmed39 s.vm) (hE : Ext Z.heap h) (hB : Books Z s.vm J) (wc : (Cond.code y zc zm zr).before a0 Z = true) (wz : (Cond.initialized y.cls).before a0 Z = true) (hf : rm.frames + 1 ≤ R.frames) (hl : W + (zm + 11) + rm.locals ≤ R.locals) :
    BackS l R p e below s args y len W (fun A a => a = as' ∧ A.U.heap = h ∧ A.cells + rm.cells ≤ R.cells ∧ A.slots + rm.slots ≤ R.slots) (fun A _ v B => ∃ L, (∃ J', (Q' v B.U.heap J' ∧ Books Z B.U.vm J') ∧ Fr Z.heap.size L ∧ Ext Z.heap B.U.heap) ∧ B.locs = A.locs ++ L ∧ B.cells = A.cells + rm.cells ∧ B.slots = A.slots + rm.slots) :=
  BackS.of_freeW (bytes := zc) (maxL := zm) (ret := zr) (E := fun _ _ o t L k n => k = rm.cells ∧ n = rm.slots ∧ ∃ v J', o = .returned v ∧ (Q' v t.heap J' ∧ Books Z t.vm J') ∧ Fr Z.heap.size L ∧ Ext Z.heap t.heap) M hf hl
    (fun m meth c A a Y hp => have hU : Z.Warmed39 A.U.vm := wtrans hZ Y.warmed
      ⟨by show (Cond.and _ .tt).before a A.U = true; rw [Cond.before_and, mv hU wc]; rfl, mv hU wc, mv hU wz, hp.2.2.1, hp.2.2.2⟩)
    (fun m meth c A a g mk Y hp => ⟨hp.1, wtrans hZ Y.warmed, hp.2.1, hE, fun _ => Books.warm (s := s) (vm0 := s.vm) hB Y.warmed⟩) (fun _ _ _ _ _ _ _ _ _ => trivial)
    (fun _ _ _ _ ⟨v, L, J', h1, ⟨h2, h3, h4, h5⟩, h6⟩ => ⟨L, _, _, h6.1, rfl, rfl, v, J', h1, ⟨h2, h5 rfl⟩, h3, h4⟩)
    (fun m meth c A a g mk v t L k n Y hp _ _ ⟨e1, e2, v', J', e3, e4⟩ => by cases e3; subst e1 e2; exact ⟨L, ⟨J', e4⟩, rfl, rfl, rfl⟩)
theorem Wlk.callS {z : MethodName} {index : Nat} {zc : ByteArray} {zm : Nat} {rm : Room} {argsL : List Value} {stk : List Value} {W : Nat} {ps : List FieldType} {r : Option FieldType} {Q' : Option Value → Heap → JJ → Prop} {zr : Option FieldType} {J0 : JJ} (hd : decode code pc = .ok (.invokestatic index, 3)) (wl : (Cond.methodLink y.cls index z).before a0 Z = true) (ws : (Cond.static z).before a0 Z = true) (wz : (Cond.initialized z.cls).before a0 Z = true) (wc : (Cond.code z zc zm zr).before a0 Z = true) (hy : z.cls ≠ "java/lang/invoke/MethodHandle" ∧ z.cls ≠ "java/lang/invoke/VarHandle")
    (pd : parseMethodDescriptor z.desc = some ⟨ps, r⟩) (hlen : argsL.length = ps.length) (M : Met G.l Z z zc zm zr false [] rm argsL.toArray h J0 Q') (hf : rm.frames + 1 ≤ R.frames) (hW : (st.map fun v => v.category).sum = W) (hl : W + (zm + 11) + rm.locals ≤ R.locals) (hc : k + rm.cells ≤ R.cells) (hs : n + rm.slots ≤ R.slots) (hst : stk = argsL.reverse ++ st) (hp : pc + 3 = pc')
    (H : ∀ v h' J', Q' v h' J' → Wlk G R Z y code ret w J Q h' (k + rm.cells) (n + rm.slots) pc' Ls (v.toList ++ st)) : Wlk G R Z y code ret w J Q h k n pc Ls stk := by
  subst hp hst
  intro hG hsz T L hP
  obtain ⟨vm0, k0, X, eT, hS, hk, hZ, hown, hw, hB, hE, hF⟩ := hP
  have hZ' : Z.Warmed39 (G.s.setVm vm0).vm := hZ
  obtain ⟨v, vm₁, ⟨T', L', k', n'⟩, -, X', ⟨Lc, hQ, l1, y1, z1⟩, s'⟩ := Jvm.LawKit.callS X hG.1 (y := z) hown (mvT hZ' wl) (mvT hZ' ws) (mvT hZ' wz) (mvT hZ' wc) hy (backOf (W := W) (len := 3) (Q := fun v h' L => (∃ J', Q' v h' J') ∧ Fr Z.heap.size L ∧ Ext Z.heap h' ∧ h.size ≤ h'.size) (M.narrow hE) hZ' wc wz hf hl) (g := mkF G.m pc Ls (argsL.reverse ++ st)) rfl hsz (argsL := argsL) (rest := st) (lenOf pd hlen) rfl (by show 2 * 0 + _ ≤ _; omega) (hb hG.2.1 hd) (fun _ _ => ⟨rfl, eT, hc, hs⟩)
  dsimp only [Pt.U, Pt.locs, Pt.cells, Pt.slots] at X' l1 y1 z1 s' hQ
  subst l1 y1 z1
  obtain ⟨⟨J', hQ⟩, hFc, hEc, hgr⟩ := hQ
  obtain ⟨s₂, o, hs2, rr⟩ := H v T'.heap J' hQ hG hsz T' _ ⟨vm0, k0, X', rfl, hS, Nat.le_trans hk hgr, hZ, hown, hw, hB, hEc, Fr.app hF hFc⟩
  exact ⟨s₂, o, s' _ hs2, rr⟩
theorem Wlk.callSw {z : MethodName} {index : Nat} {zc : ByteArray} {zm : Nat} {rm : Room} {argsL : List Value} {stk : List Value} {W : Nat} {ps : List FieldType} {r : Option FieldType} {Q' : Option Value → Heap → JJ → Prop} {zr : Option FieldType} (hd : decode code pc = .ok (.invokestatic index, 3)) (wl : (Cond.methodLink y.cls index z).before a0 Z = true) (ws : (Cond.static z).before a0 Z = true) (wz : (Cond.initialized z.cls).before a0 Z = true) (wc : (Cond.code z zc zm zr).before a0 Z = true) (hy : z.cls ≠ "java/lang/invoke/MethodHandle" ∧ z.cls ≠ "java/lang/invoke/VarHandle")
    (pd : parseMethodDescriptor z.desc = some ⟨ps, r⟩) (hlen : argsL.length = ps.length) (M : Met G.l Z z zc zm zr true [] rm argsL.toArray h J Q') (hf : rm.frames + 1 ≤ R.frames) (hW : (st.map fun v => v.category).sum = W) (hl : W + (zm + 11) + rm.locals ≤ R.locals) (hc : k + rm.cells ≤ R.cells) (hs : n + rm.slots ≤ R.slots) (hst : stk = argsL.reverse ++ st) (hp : pc + 3 = pc')
    (H : ∀ v h' J', Q' v h' J' → Wlk G R Z y code ret true J' Q h' (k + rm.cells) (n + rm.slots) pc' Ls (v.toList ++ st)) : Wlk G R Z y code ret true J Q h k n pc Ls stk := by
  subst hp hst
  intro hG hsz T L hP
  obtain ⟨vm0, k0, X, eT, hS, hk, hZ, hown, hw, hB, hE, hF⟩ := hP
  have hZ' : Z.Warmed39 (G.s.setVm vm0).vm := hZ
  obtain ⟨v, vm₁, ⟨T', L', k', n'⟩, -, X', hS', hgr, ⟨Lc, hQ, l1, y1, z1⟩, s'⟩ := callSS X hG.1 (y := z) hown (mvT hZ' wl) (mvT hZ' ws) (mvT hZ' wz) (mvT hZ' wc) hy (Met.wideBack (W := W) (len := 3) M hZ' hE (hB rfl) wc wz hf hl) (g := mkF G.m pc Ls (argsL.reverse ++ st)) rfl hsz (argsL := argsL) (rest := st) (lenOf pd hlen) rfl (by show 2 * 0 + _ ≤ _; omega) (hb hG.2.1 hd) (fun _ _ => ⟨rfl, eT, hc, hs⟩)
  dsimp only [Pt.U, Pt.locs, Pt.cells, Pt.slots] at X' l1 y1 z1 s' hQ hS' hgr
  subst l1 y1 z1
  obtain ⟨J', ⟨hQ, hBc⟩, hFc, hEc⟩ := hQ
  obtain ⟨X2, hS2, hZ2, hown2⟩ := rebS (k0 := k0) (n1 := T.heap.size) hS (by rw [eT]; exact hk) X' hS' hgr hZ' hown
  obtain ⟨s₂, o, hs2, rr⟩ := H v T'.heap J' hQ hG hsz T' _ ⟨T'.vm, T'.heap.size, X2, rfl, hS2, Nat.le_refl _, hZ2, hown2, nofun, fun _ => hBc, hEc, Fr.app hF hFc⟩
  exact ⟨s₂, o, s'.trans hs2, rr⟩
theorem Wlk.callC {z : MethodName} {index : Nat} {zc : ByteArray} {zm : Nat} {rm : Room} {argsL : List Value} {stk : List Value} {W : Nat} {ps : List FieldType} {r : Option FieldType} {Q' : Option Value → Heap → JJ → Prop} {a : Addr} {J0 : JJ} (hd : decode code pc = .ok (.invokespecial index, 3)) (wl : (Cond.methodLink y.cls index z).before a0 Z = true) (wi : (Cond.instanceMethod z).before a0 Z = true) (wz : (Cond.initialized z.cls).before a0 Z = true) (wc : (Cond.code z zc zm none).before a0 Z = true) (hy : z.cls ≠ "java/lang/invoke/MethodHandle" ∧ z.cls ≠ "java/lang/invoke/VarHandle") (hin : z.name = "<init>")
    (pd : parseMethodDescriptor z.desc = some ⟨ps, r⟩) (hlen : argsL.length = ps.length) (M : Met G.l Z z zc zm none false [] rm (.ref a :: argsL).toArray h J0 Q') (hf : rm.frames + 1 ≤ R.frames) (hW : (st.map fun v => v.category).sum = W) (hl : W + (zm + 11) + rm.locals ≤ R.locals) (hc : k + rm.cells ≤ R.cells) (hs : n + rm.slots ≤ R.slots) (hst : stk = argsL.reverse ++ .ref a :: st) (hp : pc + 3 = pc')
    (H : ∀ v h' J', Q' v h' J' → Wlk G R Z y code ret w J Q h' (k + rm.cells) (n + rm.slots) pc' Ls (v.toList ++ st)) : Wlk G R Z y code ret w J Q h k n pc Ls stk := by
  subst hp hst
  intro hG hsz T L hP
  obtain ⟨vm0, k0, X, eT, hS, hk, hZ, hown, hw, hB, hE, hF⟩ := hP
  have hZ' : Z.Warmed39 (G.s.setVm vm0).vm := hZ
  obtain ⟨v, vm₁, ⟨T', L', k', n'⟩, -, X', ⟨Lc, hQ, l1, y1, z1⟩, s'⟩ := X.specialBack hG.1 (y := z) hin hown (mvT hZ' wl) (mvT hZ' wi) (mvT hZ' wc) hy (backOf (W := W) (len := 3) (Q := fun v h' L => (∃ J', Q' v h' J') ∧ Fr Z.heap.size L ∧ Ext Z.heap h' ∧ h.size ≤ h'.size) (M.narrow hE) hZ' wc wz hf hl) (g := mkF G.m pc Ls (argsL.reverse ++ .ref a :: st)) rfl hsz (Steps.refl _) (a := a) (argsL := argsL) (rest := st) (lenOf pd hlen) rfl (by show 2 * 0 + _ ≤ _; omega) (hb hG.2.1 hd) (fun _ _ => ⟨rfl, eT, hc, hs⟩)
  dsimp only [Pt.U, Pt.locs, Pt.cells, Pt.slots] at X' l1 y1 z1 s' hQ
  subst l1 y1 z1
  obtain ⟨⟨J', hQ⟩, hFc, hEc, hgr⟩ := hQ
  obtain ⟨s₂, o, hs2, rr⟩ := H v T'.heap J' hQ hG hsz T' _ ⟨vm0, k0, X', rfl, hS, Nat.le_trans hk hgr, hZ, hown, hw, hB, hEc, Fr.app hF hFc⟩
  exact ⟨s₂, o, s'.trans hs2, rr⟩
theorem Wlk.callCw {z : MethodName} {index : Nat} {zc : ByteArray} {zm : Nat} {rm : Room} {argsL : List Value} {stk : List Value} {W : Nat} {ps : List FieldType} {r : Option FieldType} {Q' : Option Value → Heap → JJ → Prop} {a : Addr} (hd : decode code pc = .ok (.invokespecial index, 3)) (wl : (Cond.methodLink y.cls index z).before a0 Z = true) (wi : (Cond.instanceMethod z).before a0 Z = true) (wz : (Cond.initialized z.cls).before a0 Z = true) (wc : (Cond.code z zc zm none).before a0 Z = true) (hy : z.cls ≠ "java/lang/invoke/MethodHandle" ∧ z.cls ≠ "java/lang/invoke/VarHandle") (hin : z.name = "<init>")
    (pd : parseMethodDescriptor z.desc = some ⟨ps, r⟩) (hlen : argsL.length = ps.length) (M : Met G.l Z z zc zm none true [] rm (.ref a :: argsL).toArray h J Q') (hf : rm.frames + 1 ≤ R.frames) (hW : (st.map fun v => v.category).sum = W) (hl : W + (zm + 11) + rm.locals ≤ R.locals) (hc : k + rm.cells ≤ R.cells) (hs : n + rm.slots ≤ R.slots) (hst : stk = argsL.reverse ++ .ref a :: st) (hp : pc + 3 = pc')
    (H : ∀ v h' J', Q' v h' J' → Wlk G R Z y code ret true J' Q h' (k + rm.cells) (n + rm.slots) pc' Ls (v.toList ++ st)) : Wlk G R Z y code ret true J Q h k n pc Ls stk := by
  subst hp hst
  intro hG hsz T L hP
  obtain ⟨vm0, k0, X, eT, hS, hk, hZ, hown, hw, hB, hE, hF⟩ := hP
  have hZ' : Z.Warmed39 (G.s.setVm vm0).vm := hZ
  obtain ⟨v, vm₁, ⟨T', L', k', n'⟩, -, X', hS', hgr, ⟨Lc, hQ, l1, y1, z1⟩, s'⟩ := X.specialBackS hG.1 (y := z) hin hown (mvT hZ' wl) (mvT hZ' wi) (mvT hZ' wc) hy (Met.wideBack (W := W) (len := 3) M hZ' hE (hB rfl) wc wz hf hl) (g := mkF G.m pc Ls (argsL.reverse ++ .ref a :: st)) rfl hsz (Steps.refl _) (a := a) (argsL := argsL) (rest := st) (lenOf pd hlen) rfl (by show 2 * 0 + _ ≤ _; omega) (hb hG.2.1 hd) (fun _ _ => ⟨rfl, eT, hc, hs⟩)
  dsimp only [Pt.U, Pt.locs, Pt.cells, Pt.slots] at X' l1 y1 z1 s' hQ hS' hgr
  subst l1 y1 z1
  obtain ⟨J', ⟨hQ, hBc⟩, hFc, hEc⟩ := hQ
  obtain ⟨X2, hS2, hZ2, hown2⟩ := rebS (k0 := k0) (n1 := T.heap.size) hS (by rw [eT]; exact hk) X' hS' hgr hZ' hown
  obtain ⟨s₂, o, hs2, rr⟩ := H v T'.heap J' hQ hG hsz T' _ ⟨T'.vm, T'.heap.size, X2, rfl, hS2, Nat.le_refl _, hZ2, hown2, nofun, fun _ => hBc, hEc, Fr.app hF hFc⟩
  exact ⟨s₂, o, s'.trans hs2, rr⟩
theorem Wlk.callV {z : MethodName} {index : Nat} {zc : ByteArray} {zm : Nat} {rm : Room} {argsL : List Value} {stk : List Value} {W : Nat} {ps : List FieldType} {r : Option FieldType} {Q' : Option Value → Heap → JJ → Prop} {zr : Option FieldType} {a : Addr} {x : MethodName} {C : String} {J0 : JJ} (hd : decode code pc = .ok (.invokevirtual index, 3)) (wl : (Cond.methodLink y.cls index x).before a0 Z = true) (wd : (Cond.declares x).before a0 Z = true) (wn : ∀ s : State, Z.Warmed39 s.vm → NotFace s x) (wsel : (Cond.selects C x z).before a0 Z = true) (wi : (Cond.instanceMethod z).before a0 Z = true) (E : Exa Z h a C) (wz : (Cond.initialized z.cls).before a0 Z = true) (wc : (Cond.code z zc zm zr).before a0 Z = true) (hy : x.cls ≠ "java/lang/invoke/MethodHandle" ∧ x.cls ≠ "java/lang/invoke/VarHandle")
    (pd : parseMethodDescriptor x.desc = some ⟨ps, r⟩) (hlen : argsL.length = ps.length) (M : Met G.l Z z zc zm zr false [] rm (.ref a :: argsL).toArray h J0 Q') (hf : rm.frames + 1 ≤ R.frames) (hW : (st.map fun v => v.category).sum = W) (hl : W + (zm + 11) + rm.locals ≤ R.locals) (hc : k + rm.cells ≤ R.cells) (hs : n + rm.slots ≤ R.slots) (hst : stk = argsL.reverse ++ .ref a :: st) (hp : pc + 3 = pc')
    (H : ∀ v h' J', Q' v h' J' → Wlk G R Z y code ret w J Q h' (k + rm.cells) (n + rm.slots) pc' Ls (v.toList ++ st)) : Wlk G R Z y code ret w J Q h k n pc Ls stk := by
  subst hp hst
  intro hG hsz T L hP
  obtain ⟨vm0, k0, X, eT, hS, hk, hZ, hown, hw, hB, hE, hF⟩ := hP
  have hZ' : Z.Warmed39 (G.s.setVm vm0).vm := hZ
  obtain ⟨cq, kq, qa, qb, qc⟩ := isOf hZ' eT E
  obtain ⟨v, vm₁, ⟨T', L', k', n'⟩, -, X', ⟨Lc, hQ, l1, y1, z1⟩, s'⟩ := X.virtualBack hG.1 (y := x) (z := z) hown (mvT hZ' wl) (mvT hZ' wd) (wn _ hZ') (mvT hZ' wsel) (mvT hZ' wi) hy (backOf (W := W) (len := 3) (Q := fun v h' L => (∃ J', Q' v h' J') ∧ Fr Z.heap.size L ∧ Ext Z.heap h' ∧ h.size ≤ h'.size) (M.narrow hE) hZ' wc wz hf hl) qa qc (g := mkF G.m pc Ls (argsL.reverse ++ .ref a :: st)) rfl hsz (Steps.refl _) (argsL := argsL) (rest := st) (lenOf pd hlen) rfl (by show 2 * 0 + _ ≤ _; omega) (hb hG.2.1 hd) (fun _ _ => ⟨rfl, eT, hc, hs⟩)
  dsimp only [Pt.U, Pt.locs, Pt.cells, Pt.slots] at X' l1 y1 z1 s' hQ
  subst l1 y1 z1
  obtain ⟨⟨J', hQ⟩, hFc, hEc, hgr⟩ := hQ
  obtain ⟨s₂, o, hs2, rr⟩ := H v T'.heap J' hQ hG hsz T' _ ⟨vm0, k0, X', rfl, hS, Nat.le_trans hk hgr, hZ, hown, hw, hB, hEc, Fr.app hF hFc⟩
  exact ⟨s₂, o, s'.trans hs2, rr⟩
theorem Wlk.callVw {z : MethodName} {index : Nat} {zc : ByteArray} {zm : Nat} {rm : Room} {argsL : List Value} {stk : List Value} {W : Nat} {ps : List FieldType} {r : Option FieldType} {Q' : Option Value → Heap → JJ → Prop} {zr : Option FieldType} {a : Addr} {x : MethodName} {C : String} (hd : decode code pc = .ok (.invokevirtual index, 3)) (wl : (Cond.methodLink y.cls index x).before a0 Z = true) (wd : (Cond.declares x).before a0 Z = true) (wn : ∀ s : State, Z.Warmed39 s.vm → NotFace s x) (wsel : (Cond.selects C x z).before a0 Z = true) (wi : (Cond.instanceMethod z).before a0 Z = true) (E : Exa Z h a C) (wz : (Cond.initialized z.cls).before a0 Z = true) (wc : (Cond.code z zc zm zr).before a0 Z = true) (hy : x.cls ≠ "java/lang/invoke/MethodHandle" ∧ x.cls ≠ "java/lang/invoke/VarHandle")
    (pd : parseMethodDescriptor x.desc = some ⟨ps, r⟩) (hlen : argsL.length = ps.length) (M : Met G.l Z z zc zm zr true [] rm (.ref a :: argsL).toArray h J Q') (hf : rm.frames + 1 ≤ R.frames) (hW : (st.map fun v => v.category).sum = W) (hl : W + (zm + 11) + rm.locals ≤ R.locals) (hc : k + rm.cells ≤ R.cells) (hs : n + rm.slots ≤ R.slots) (hst : stk = argsL.reverse ++ .ref a :: st) (hp : pc + 3 = pc')
    (H : ∀ v h' J', Q' v h' J' → Wlk G R Z y code ret true J' Q h' (k + rm.cells) (n + rm.slots) pc' Ls (v.toList ++ st)) : Wlk G R Z y code ret true J Q h k n pc Ls stk := by
  subst hp hst
  intro hG hsz T L hP
  obtain ⟨vm0, k0, X, eT, hS, hk, hZ, hown, hw, hB, hE, hF⟩ := hP
  have hZ' : Z.Warmed39 (G.s.setVm vm0).vm := hZ
  obtain ⟨cq, kq, qa, qb, qc⟩ := isOf hZ' eT E
  obtain ⟨v, vm₁, ⟨T', L', k', n'⟩, -, X', hS', hgr, ⟨Lc, hQ, l1, y1, z1⟩, s'⟩ := X.virtualBackS hG.1 (y := x) (z := z) hown (mvT hZ' wl) (mvT hZ' wd) (wn _ hZ') (mvT hZ' wsel) (mvT hZ' wi) hy (Met.wideBack (W := W) (len := 3) M hZ' hE (hB rfl) wc wz hf hl) qa qc (g := mkF G.m pc Ls (argsL.reverse ++ .ref a :: st)) rfl hsz (Steps.refl _) (argsL := argsL) (rest := st) (lenOf pd hlen) rfl (by show 2 * 0 + _ ≤ _; omega) (hb hG.2.1 hd) (fun _ _ => ⟨rfl, eT, hc, hs⟩)
  dsimp only [Pt.U, Pt.locs, Pt.cells, Pt.slots] at X' l1 y1 z1 s' hQ hS' hgr
  subst l1 y1 z1
  obtain ⟨J', ⟨hQ, hBc⟩, hFc, hEc⟩ := hQ
  obtain ⟨X2, hS2, hZ2, hown2⟩ := rebS (k0 := k0) (n1 := T.heap.size) hS (by rw [eT]; exact hk) X' hS' hgr hZ' hown
  obtain ⟨s₂, o, hs2, rr⟩ := H v T'.heap J' hQ hG hsz T' _ ⟨T'.vm, T'.heap.size, X2, rfl, hS2, Nat.le_refl _, hZ2, hown2, nofun, fun _ => hBc, hEc, Fr.app hF hFc⟩
  exact ⟨s₂, o, s'.trans hs2, rr⟩
theorem Wlk.callP {z : MethodName} {index : Nat} {zc : ByteArray} {zm : Nat} {rm : Room} {argsL : List Value} {stk : List Value} {W : Nat} {ps : List FieldType} {r : Option FieldType} {Q' : Option Value → Heap → JJ → Prop} {zr : Option FieldType} {a : Addr} {J0 : JJ} (hd : decode code pc = .ok (.invokevirtual index, 3)) (wl : (Cond.methodLink y.cls index z).before a0 Z = true) (wi : (Cond.instanceMethod z).before a0 Z = true) (wsel : (Cond.selects z.cls z z).before a0 Z = true) (wp : (Cond.privateMethod z).before a0 Z = true) {C : String} (E : Exa Z h a C) (wz : (Cond.initialized z.cls).before a0 Z = true) (wc : (Cond.code z zc zm zr).before a0 Z = true) (hy : z.cls ≠ "java/lang/invoke/MethodHandle" ∧ z.cls ≠ "java/lang/invoke/VarHandle")
    (pd : parseMethodDescriptor z.desc = some ⟨ps, r⟩) (hlen : argsL.length = ps.length) (M : Met G.l Z z zc zm zr false [] rm (.ref a :: argsL).toArray h J0 Q') (hf : rm.frames + 1 ≤ R.frames) (hW : (st.map fun v => v.category).sum = W) (hl : W + (zm + 11) + rm.locals ≤ R.locals) (hc : k + rm.cells ≤ R.cells) (hs : n + rm.slots ≤ R.slots) (hst : stk = argsL.reverse ++ .ref a :: st) (hp : pc + 3 = pc')
    (H : ∀ v h' J', Q' v h' J' → Wlk G R Z y code ret w J Q h' (k + rm.cells) (n + rm.slots) pc' Ls (v.toList ++ st)) : Wlk G R Z y code ret w J Q h k n pc Ls stk := by
  subst hp hst
  intro hG hsz T L hP
  obtain ⟨vm0, k0, X, eT, hS, hk, hZ, hown, hw, hB, hE, hF⟩ := hP
  have hZ' : Z.Warmed39 (G.s.setVm vm0).vm := hZ
  obtain ⟨cq, q1, q2⟩ := E.cell
  obtain ⟨v, vm₁, ⟨T', L', k', n'⟩, -, X', ⟨Lc, hQ, l1, y1, z1⟩, s'⟩ := X.privateBack hG.1 (y := z) hown (mvT hZ' wl) (mvT hZ' wi) (mvT hZ' wsel) (Cond.privateMethod_at (mvP hZ' wp (args := #[]))) (mvT hZ' wc) hy (backOf (W := W) (len := 3) (Q := fun v h' L => (∃ J', Q' v h' J') ∧ Fr Z.heap.size L ∧ Ext Z.heap h' ∧ h.size ≤ h'.size) (M.narrow hE) hZ' wc wz hf hl) (g := mkF G.m pc Ls (argsL.reverse ++ .ref a :: st)) rfl hsz (Steps.refl _) (a := a) (by rw [eT]; exact q1) q2 (argsL := argsL) (rest := st) (lenOf pd hlen) rfl (by show 2 * 0 + _ ≤ _; omega) (hb hG.2.1 hd) (fun _ _ => ⟨rfl, eT, hc, hs⟩)
  dsimp only [Pt.U, Pt.locs, Pt.cells, Pt.slots] at X' l1 y1 z1 s' hQ
  subst l1 y1 z1
  obtain ⟨⟨J', hQ⟩, hFc, hEc, hgr⟩ := hQ
  obtain ⟨s₂, o, hs2, rr⟩ := H v T'.heap J' hQ hG hsz T' _ ⟨vm0, k0, X', rfl, hS, Nat.le_trans hk hgr, hZ, hown, hw, hB, hEc, Fr.app hF hFc⟩
  exact ⟨s₂, o, s'.trans hs2, rr⟩
theorem Wlk.callPw {z : MethodName} {index : Nat} {zc : ByteArray} {zm : Nat} {rm : Room} {argsL : List Value} {stk : List Value} {W : Nat} {ps : List FieldType} {r : Option FieldType} {Q' : Option Value → Heap → JJ → Prop} {zr : Option FieldType} {a : Addr} (hd : decode code pc = .ok (.invokevirtual index, 3)) (wl : (Cond.methodLink y.cls index z).before a0 Z = true) (wi : (Cond.instanceMethod z).before a0 Z = true) (wsel : (Cond.selects z.cls z z).before a0 Z = true) (wp : (Cond.privateMethod z).before a0 Z = true) {C : String} (E : Exa Z h a C) (wz : (Cond.initialized z.cls).before a0 Z = true) (wc : (Cond.code z zc zm zr).before a0 Z = true) (hy : z.cls ≠ "java/lang/invoke/MethodHandle" ∧ z.cls ≠ "java/lang/invoke/VarHandle")
    (pd : parseMethodDescriptor z.desc = some ⟨ps, r⟩) (hlen : argsL.length = ps.length) (M : Met G.l Z z zc zm zr true [] rm (.ref a :: argsL).toArray h J Q') (hf : rm.frames + 1 ≤ R.frames) (hW : (st.map fun v => v.category).sum = W) (hl : W + (zm + 11) + rm.locals ≤ R.locals) (hc : k + rm.cells ≤ R.cells) (hs : n + rm.slots ≤ R.slots) (hst : stk = argsL.reverse ++ .ref a :: st) (hp : pc + 3 = pc')
    (H : ∀ v h' J', Q' v h' J' → Wlk G R Z y code ret true J' Q h' (k + rm.cells) (n + rm.slots) pc' Ls (v.toList ++ st)) : Wlk G R Z y code ret true J Q h k n pc Ls stk := by
  subst hp hst
  intro hG hsz T L hP
  obtain ⟨vm0, k0, X, eT, hS, hk, hZ, hown, hw, hB, hE, hF⟩ := hP
  have hZ' : Z.Warmed39 (G.s.setVm vm0).vm := hZ
  obtain ⟨cq, q1, q2⟩ := E.cell
  obtain ⟨v, vm₁, ⟨T', L', k', n'⟩, -, X', hS', hgr, ⟨Lc, hQ, l1, y1, z1⟩, s'⟩ := X.privateBackS hG.1 (y := z) hown (mvT hZ' wl) (mvT hZ' wi) (mvT hZ' wsel) (Cond.privateMethod_at (mvP hZ' wp (args := #[]))) (mvT hZ' wc) hy (Met.wideBack (W := W) (len := 3) M hZ' hE (hB rfl) wc wz hf hl) (g := mkF G.m pc Ls (argsL.reverse ++ .ref a :: st)) rfl hsz (Steps.refl _) (a := a) (by rw [eT]; exact q1) q2 (argsL := argsL) (rest := st) (lenOf pd hlen) rfl (by show 2 * 0 + _ ≤ _; omega) (hb hG.2.1 hd) (fun _ _ => ⟨rfl, eT, hc, hs⟩)
  dsimp only [Pt.U, Pt.locs, Pt.cells, Pt.slots] at X' l1 y1 z1 s' hQ hS' hgr
  subst l1 y1 z1
  obtain ⟨J', ⟨hQ, hBc⟩, hFc, hEc⟩ := hQ
  obtain ⟨X2, hS2, hZ2, hown2⟩ := rebS (k0 := k0) (n1 := T.heap.size) hS (by rw [eT]; exact hk) X' hS' hgr hZ' hown
  obtain ⟨s₂, o, hs2, rr⟩ := H v T'.heap J' hQ hG hsz T' _ ⟨T'.vm, T'.heap.size, X2, rfl, hS2, Nat.le_refl _, hZ2, hown2, nofun, fun _ => hBc, hEc, Fr.app hF hFc⟩
  exact ⟨s₂, o, s'.trans hs2, rr⟩
theorem Wlk.callI {z : MethodName} {index : Nat} {zc : ByteArray} {zm : Nat} {rm : Room} {argsL : List Value} {stk : List Value} {W : Nat} {ps : List FieldType} {r : Option FieldType} {Q' : Option Value → Heap → JJ → Prop} {zr : Option FieldType} {a : Addr} {x : MethodName} {C : String} {count : Nat} {J0 : JJ} (hd : decode code pc = .ok (.invokeinterface index count, 5)) (wl : (Cond.methodLink y.cls index x).before a0 Z = true) (wd : (Cond.declares x).before a0 Z = true) (wf : ∀ s : State, Z.Warmed39 s.vm → (Cond.interfaceMethod x.cls x.cls x.name x.desc).before G.args s = true) (wsel : (Cond.selects C x z).before a0 Z = true) (wi : (Cond.instanceMethod z).before a0 Z = true) (wpub : (Cond.publicMethod z).before a0 Z = true) (wun : (Cond.unhidden C x.name x.desc).before a0 Z = true) (wca : (Cond.castable C x.cls).before a0 Z = true) (E : Exa Z h a C) (wz : (Cond.initialized z.cls).before a0 Z = true) (wc : (Cond.code z zc zm zr).before a0 Z = true) (hy : x.cls ≠ "java/lang/invoke/MethodHandle" ∧ x.cls ≠ "java/lang/invoke/VarHandle")
    (pd : parseMethodDescriptor x.desc = some ⟨ps, r⟩) (hlen : argsL.length = ps.length) (M : Met G.l Z z zc zm zr false [] rm (.ref a :: argsL).toArray h J0 Q') (hf : rm.frames + 1 ≤ R.frames) (hW : (st.map fun v => v.category).sum = W) (hl : W + (zm + 11) + rm.locals ≤ R.locals) (hc : k + rm.cells ≤ R.cells) (hs : n + rm.slots ≤ R.slots) (hst : stk = argsL.reverse ++ .ref a :: st) (hp : pc + 5 = pc')
    (H : ∀ v h' J', Q' v h' J' → Wlk G R Z y code ret w J Q h' (k + rm.cells) (n + rm.slots) pc' Ls (v.toList ++ st)) : Wlk G R Z y code ret w J Q h k n pc Ls stk := by
  subst hp hst
  intro hG hsz T L hP
  obtain ⟨vm0, k0, X, eT, hS, hk, hZ, hown, hw, hB, hE, hF⟩ := hP
  have hZ' : Z.Warmed39 (G.s.setVm vm0).vm := hZ
  obtain ⟨cq, kq, qa, qb, qc⟩ := isOf hZ' eT E
  obtain ⟨v, vm₁, ⟨T', L', k', n'⟩, -, X', ⟨Lc, hQ, l1, y1, z1⟩, s'⟩ := X.interfaceBack hG.1 (xi := x) (y := z) hown (mvT hZ' wl) (mvT hZ' wd) (wf _ hZ') (mvT hZ' wsel) (mvT hZ' wi) (mvT hZ' wpub) (mvT hZ' wun) (mvT hZ' wca) hy (backOf (W := W) (len := 5) (Q := fun v h' L => (∃ J', Q' v h' J') ∧ Fr Z.heap.size L ∧ Ext Z.heap h' ∧ h.size ≤ h'.size) (M.narrow hE) hZ' wc wz hf hl) qa qb qc (g := mkF G.m pc Ls (argsL.reverse ++ .ref a :: st)) rfl hsz (Steps.refl _) (argsL := argsL) (rest := st) (lenOf pd hlen) rfl (by show 2 * 0 + _ ≤ _; omega) (hb hG.2.1 hd) (fun _ _ => ⟨rfl, eT, hc, hs⟩)
  dsimp only [Pt.U, Pt.locs, Pt.cells, Pt.slots] at X' l1 y1 z1 s' hQ
  subst l1 y1 z1
  obtain ⟨⟨J', hQ⟩, hFc, hEc, hgr⟩ := hQ
  obtain ⟨s₂, o, hs2, rr⟩ := H v T'.heap J' hQ hG hsz T' _ ⟨vm0, k0, X', rfl, hS, Nat.le_trans hk hgr, hZ, hown, hw, hB, hEc, Fr.app hF hFc⟩
  exact ⟨s₂, o, s'.trans hs2, rr⟩
theorem Wlk.callIw {z : MethodName} {index : Nat} {zc : ByteArray} {zm : Nat} {rm : Room} {argsL : List Value} {stk : List Value} {W : Nat} {ps : List FieldType} {r : Option FieldType} {Q' : Option Value → Heap → JJ → Prop} {zr : Option FieldType} {a : Addr} {x : MethodName} {C : String} {count : Nat} (hd : decode code pc = .ok (.invokeinterface index count, 5)) (wl : (Cond.methodLink y.cls index x).before a0 Z = true) (wd : (Cond.declares x).before a0 Z = true) (wf : ∀ s : State, Z.Warmed39 s.vm → (Cond.interfaceMethod x.cls x.cls x.name x.desc).before G.args s = true) (wsel : (Cond.selects C x z).before a0 Z = true) (wi : (Cond.instanceMethod z).before a0 Z = true) (wpub : (Cond.publicMethod z).before a0 Z = true) (wun : (Cond.unhidden C x.name x.desc).before a0 Z = true) (wca : (Cond.castable C x.cls).before a0 Z = true) (E : Exa Z h a C) (wz : (Cond.initialized z.cls).before a0 Z = true) (wc : (Cond.code z zc zm zr).before a0 Z = true) (hy : x.cls ≠ "java/lang/invoke/MethodHandle" ∧ x.cls ≠ "java/lang/invoke/VarHandle")
    (pd : parseMethodDescriptor x.desc = some ⟨ps, r⟩) (hlen : argsL.length = ps.length) (M : Met G.l Z z zc zm zr true [] rm (.ref a :: argsL).toArray h J Q') (hf : rm.frames + 1 ≤ R.frames) (hW : (st.map fun v => v.category).sum = W) (hl : W + (zm + 11) + rm.locals ≤ R.locals) (hc : k + rm.cells ≤ R.cells) (hs : n + rm.slots ≤ R.slots) (hst : stk = argsL.reverse ++ .ref a :: st) (hp : pc + 5 = pc')
    (H : ∀ v h' J', Q' v h' J' → Wlk G R Z y code ret true J' Q h' (k + rm.cells) (n + rm.slots) pc' Ls (v.toList ++ st)) : Wlk G R Z y code ret true J Q h k n pc Ls stk := by
  subst hp hst
  intro hG hsz T L hP
  obtain ⟨vm0, k0, X, eT, hS, hk, hZ, hown, hw, hB, hE, hF⟩ := hP
  have hZ' : Z.Warmed39 (G.s.setVm vm0).vm := hZ
  obtain ⟨cq, kq, qa, qb, qc⟩ := isOf hZ' eT E
  obtain ⟨v, vm₁, ⟨T', L', k', n'⟩, -, X', hS', hgr, ⟨Lc, hQ, l1, y1, z1⟩, s'⟩ := X.interfaceBackS hG.1 (xi := x) (y := z) hown (mvT hZ' wl) (mvT hZ' wd) (wf _ hZ') (mvT hZ' wsel) (mvT hZ' wi) (mvT hZ' wpub) (mvT hZ' wun) (mvT hZ' wca) hy (Met.wideBack (W := W) (len := 5) M hZ' hE (hB rfl) wc wz hf hl) qa qb qc (g := mkF G.m pc Ls (argsL.reverse ++ .ref a :: st)) rfl hsz (Steps.refl _) (argsL := argsL) (rest := st) (lenOf pd hlen) rfl (by show 2 * 0 + _ ≤ _; omega) (hb hG.2.1 hd) (fun _ _ => ⟨rfl, eT, hc, hs⟩)
  dsimp only [Pt.U, Pt.locs, Pt.cells, Pt.slots] at X' l1 y1 z1 s' hQ hS' hgr
  subst l1 y1 z1
  obtain ⟨J', ⟨hQ, hBc⟩, hFc, hEc⟩ := hQ
  obtain ⟨X2, hS2, hZ2, hown2⟩ := rebS (k0 := k0) (n1 := T.heap.size) hS (by rw [eT]; exact hk) X' hS' hgr hZ' hown
  obtain ⟨s₂, o, hs2, rr⟩ := H v T'.heap J' hQ hG hsz T' _ ⟨T'.vm, T'.heap.size, X2, rfl, hS2, Nat.le_refl _, hZ2, hown2, nofun, fun _ => hBc, hEc, Fr.app hF hFc⟩
  exact ⟨s₂, o, s'.trans hs2, rr⟩
/-- a constructor that a pasted law of the kit pays -/
theorem Wlk.callCB {z : MethodName} {index : Nat} {zc : ByteArray} {zm ck cs : Nat} {argsL : List Value} {stk : List Value} {W : Nat} {ps : List FieldType} {r : Option FieldType} {QQ : Option Value → Heap → List Loc → Prop} {a : Addr} (hd : decode code pc = .ok (.invokespecial index, 3)) (wl : (Cond.methodLink y.cls index z).before a0 Z = true) (wi : (Cond.instanceMethod z).before a0 Z = true) (wc : (Cond.code z zc zm none).before a0 Z = true) (hy : z.cls ≠ "java/lang/invoke/MethodHandle" ∧ z.cls ≠ "java/lang/invoke/VarHandle") (hin : z.name = "<init>")
    (pd : parseMethodDescriptor z.desc = some ⟨ps, r⟩) (hlen : argsL.length = ps.length) (hW : (st.map fun v => v.category).sum = W)
    (hK : ∀ s : State, Z.Warmed39 s.vm → Ext Z.heap h → Back G.l R G.p G.e G.below s G.args z 3 W (fun P v => v = (.ref a :: argsL).toArray ∧ P.U.heap = h ∧ P.cells + ck ≤ R.cells ∧ P.slots + cs ≤ R.slots) (fun P _ v B => ∃ L, QQ v B.U.heap L ∧ B.locs = P.locs ++ L ∧ B.cells = P.cells + ck ∧ B.slots = P.slots + cs))
    (hQ : ∀ v h' L, Ext Z.heap h → QQ v h' L → Fr Z.heap.size L ∧ Ext Z.heap h' ∧ h.size ≤ h'.size) (hc : k + ck ≤ R.cells) (hs : n + cs ≤ R.slots) (hst : stk = argsL.reverse ++ .ref a :: st) (hp : pc + 3 = pc')
    (H : ∀ v h' L, QQ v h' L → Wlk G R Z y code ret w J Q h' (k + ck) (n + cs) pc' Ls (v.toList ++ st)) : Wlk G R Z y code ret w J Q h k n pc Ls stk := by
  subst hp hst
  intro hG hsz T L hP
  obtain ⟨vm0, k0, X, eT, hS, hk, hZ, hown, hw, hB, hE, hF⟩ := hP
  have hZ' : Z.Warmed39 (G.s.setVm vm0).vm := hZ
  obtain ⟨v, vm₁, ⟨T', L', k', n'⟩, -, X', ⟨Lc, hQ1, l1, y1, z1⟩, s'⟩ := X.specialBack hG.1 (y := z) hin hown (mvT hZ' wl) (mvT hZ' wi) (mvT hZ' wc) hy (hK _ hZ' hE) (g := mkF G.m pc Ls (argsL.reverse ++ .ref a :: st)) rfl hsz (Steps.refl _) (a := a) (argsL := argsL) (rest := st) (lenOf pd hlen) rfl (by show 2 * 0 + _ ≤ _; omega) (hb hG.2.1 hd) (fun _ _ => ⟨rfl, eT, hc, hs⟩)
  dsimp only [Pt.U, Pt.locs, Pt.cells, Pt.slots] at X' l1 y1 z1 s' hQ1
  subst l1 y1 z1
  obtain ⟨hFc, hEc, hgr⟩ := hQ _ _ _ hE hQ1
  obtain ⟨s₂, o, hs2, rr⟩ := H v T'.heap Lc hQ1 hG hsz T' _ ⟨vm0, k0, X', rfl, hS, Nat.le_trans hk hgr, hZ, hown, hw, hB, hEc, Fr.app hF hFc⟩
  exact ⟨s₂, o, s'.trans hs2, rr⟩
theorem ext_keep {a : Addr} {h' : Heap} (hE : Ext Z.heap h) (g : Z.heap.size ≤ a) (K : Keep h h' [a]) : Ext Z.heap h' := (Old.keep (n0 := Z.heap.size) ⟨rfl, hE⟩ K (allS g all0)).2
/-! ## String constants (wide walks) -/
theorem Stand.rebase {p : Program} {l : Launch} {e : Env} {s : State} {m : MethodId} {args : Array Value} {below : List Frame} {meth : Method} {c : Code} {T : State} {locs : List Loc} {cells slots ck cs : Nat} (X : Stand p l e R s m args below meth c T locs cells slots) (hc : cells + ck ≤ R.cells) (hs : slots + cs ≤ R.slots) :
    Stand p l e ({ frames := R.frames, cells := ck, slots := cs, locals := R.locals } : Room) (({ s with heap := T.heap, slotsUsed := T.slotsUsed } : State).setVm T.vm) m args below meth c T [] 0 0 := by
  have Y := X.retabled X.warmed.wide
  have hroom : (({ s with heap := T.heap, slotsUsed := T.slotsUsed } : State).setVm T.vm).hasRoom e.platform ({ frames := R.frames, cells := ck, slots := cs, locals := R.locals } : Room) = true := by
    have h0 := Y.room
    have h1 := X.heapSize
    have h2 := X.used
    have h3 := X.book
    simp only [State.hasRoom, Bool.and_eq_true, decide_eq_true_eq] at h0 ⊢
    obtain ⟨⟨⟨⟨a1, a2⟩, a3⟩, a4⟩, a5⟩ := h0
    refine ⟨⟨⟨⟨a1, a2⟩, ?_⟩, ?_⟩, h3⟩
    · have a3' : s.heap.size + R.cells ≤ e.platform.maxCells := a3
      show T.heap.size + ck ≤ _
      omega
    · have a4' : s.slotsUsed + R.slots ≤ e.platform.maxSlots := a4
      show T.slotsUsed + cs ≤ _
      omega
  refine ⟨Y.admits, Y.cas, Y.clock, Y.frames, hroom, Y.hears, Y.method, Y.code, X.here, X.tail, State.WarmedH.refl T, X.limits, X.bytes, ?_⟩
  refine ⟨?_, Nat.le_refl _, Nat.le_refl _, ?_, ?_, fun a cl ha => ⟨cl, ha, rfl, rfl, fun _ _ => rfl⟩⟩
  · have q := Y.same.1
    exact q
  · show T.slotsUsed = T.slotsUsed + ((T.heap.toList.drop T.heap.size).map (·.slots.size)).sum
    rw [List.drop_eq_nil_of_le (Nat.le_of_eq Array.length_toList)]
    rfl
  · show ((T.heap.toList.drop T.heap.size).map (·.slots.size)).sum ≤ 0
    rw [List.drop_eq_nil_of_le (Nat.le_of_eq Array.length_toList)]
    exact Nat.le_refl _
theorem Stand.unbase {p : Program} {l : Launch} {e : Env} {s : State} {m : MethodId} {args : Array Value} {below : List Frame} {meth : Method} {c : Code} {T T' : State} {R' : Room} {locs l₂ : List Loc} {cells slots c₂ n₂ k1 : Nat} (X : Stand p l e R s m args below meth c T locs cells slots)
    (X' : Stand p l e R' (({ s with heap := T.heap, slotsUsed := T.slotsUsed } : State).setVm T'.vm) m args below meth c T' l₂ c₂ n₂) (hS : (({ s with heap := T.heap, slotsUsed := T.slotsUsed } : State).setVm T.vm).Since T'.vm k1) (hk : k1 ≤ T'.heap.size) :
    Stand p l e R (s.setVm T'.vm) m args below meth c T' (locs ++ l₂) (cells + c₂) (slots + n₂) ∧ s.Since T'.vm T'.heap.size ∧ T.Warmed39 T'.vm := by
  have hW : T.Warmed39 T'.vm := hS.1
  obtain ⟨q1, q2⟩ := X.movedW (T₂ := T') X'.here X'.tail (X'.limits.trans X.limits.symm) (X'.bytes.trans X.bytes.symm) hW (hS.2.mono hk) (by
    obtain ⟨b1, b2, b3, b4, b5, b6⟩ := X'.same
    refine ⟨?_, b2, b3, b4, b5, b6⟩
    have e1 := X.same.1
    have e2 : T.setFrames T'.frames = ({ s.setFrames T'.frames with heap := T.heap, slotsUsed := T.slotsUsed } : State).setVm T.vm := by
      have e3 : (T.setVm s.vm).setFrames T'.frames = ({ s.setFrames T.frames with heap := T.heap, slotsUsed := T.slotsUsed } : State).setFrames T'.frames := congrArg (fun u : State => u.setFrames T'.frames) e1
      have e4 : ({ s.setFrames T.frames with heap := T.heap, slotsUsed := T.slotsUsed } : State).setFrames T'.frames = ({ s.setFrames T'.frames with heap := T.heap, slotsUsed := T.slotsUsed } : State) := by
        have := State.setFrames_setFrames s T.frames T'.frames
        show ({ (s.setFrames T.frames).setFrames T'.frames with heap := T.heap, slotsUsed := T.slotsUsed } : State) = _
        rw [this]
      have e5 := congrArg (fun u : State => u.setVm T.vm) (e3.trans e4)
      exact e5
    have b1' : T'.setVm T'.vm = ({ ((({ s with heap := T.heap, slotsUsed := T.slotsUsed } : State).setVm T'.vm).setFrames T'.frames) with heap := T'.heap, slotsUsed := T'.slotsUsed } : State) := b1
    have b2' := congrArg (fun u : State => u.setVm T.vm) b1'
    show T'.setVm T.vm = ({ T.setFrames T'.frames with heap := T'.heap, slotsUsed := T'.slotsUsed } : State)
    rw [e2]
    exact b2')
  exact ⟨q1, q2, hW⟩
/-- a constant's first load: what is pushed is a Latin-1 String with the text's bytes -/
theorem Wlk.ldcNew {index nn : Nat} {text : String} {Ts : List String} {Lt : List (String × Nat × Addr)} {vs : List Value} {z : Int32} (hd : decode code pc = .ok (.ldc index, 2)) (wl : (Cond.stringLink y.cls index text).before a0 Z = true) (wS : ∀ a ∈ Bundle.stringAtoms, a.before a0 Z = true) (hnot : text ∉ Ts) (hh : Jvm.Lit.constHeld Z y.cls index) (hcw : Jvm.Lit.compactW.before a0 Z = true)
    (ht : (∀ c ∈ text.toList, c.toNat < 256) ∧ text.toList.map (fun c => Value.int (Jvm.Lit.byteI c.toNat.toUInt16)) = vs) (hz : ¬ z < 0) (hl : z.toNatClampNeg = vs.length) (hn : 4 * text.toList.length ≤ nn) (hbig : nn ≤ 536870912) (hc : k + 2 ≤ R.cells) (hs : n + (nn + 4) ≤ R.slots) (hp : pc + 2 = pc')
    (H : ∀ (a b : Addr) (kb : ClassId) (h' : Heap), Ext h h' → Exa Z h' a "java/lang/String" → Fld Z h' a "java/lang/String" "coder" "B" (.int 0) → Fld Z h' a "java/lang/String" "value" "[B" (.ref b) → Arv Z h' b kb .byte z vs (.int 0) → Wlk G R Z y code ret true (true, text :: Ts, (y.cls, index, a) :: Lt) Q h' (k + 2) (n + (nn + 4)) pc' Ls (.ref a :: st)) :
    Wlk G R Z y code ret true (true, Ts, Lt) Q h k n pc Ls st := by
  subst hp
  intro hG hsz T L hP
  obtain ⟨vm0, k0, X, eT, hS, hk, hZ, hown, hw, hB, hE, hF⟩ := hP
  have hWT : (G.s.setVm vm0).WarmedH T.vm := X.warmed
  have hBT : Books Z T.vm (true, Ts, Lt) := Books.warm (s := G.s) (hB rfl) hWT
  have hZT : Z.Warmed39 T.vm := State.Warmed39.trans (t := G.s.setVm vm0) hZ hWT.wide
  have hownT : T.vm.findClass y.cls = some G.m.cls := by rw [hWT.alike.findClass]; exact hown
  have Y := Stand.rebase (ck := 2) (cs := nn + 4) X hc hs
  obtain ⟨a, T', h', k1, b, kb, X', e', E', hS', hk', hZ', hown', A1, A2, A3, A4, -, -, I', Lit', s'⟩ := ldcSVL (s := ({ G.s.setVm vm0 with heap := T.heap, slotsUsed := T.slotsUsed } : State).setVm T.vm) (vm0 := T.vm) (g := mkF G.m pc Ls st) Y hG.1 hZT hownT wl wS eT (k0 := 0) ((State.WarmedH.refl (({ G.s.setVm vm0 with heap := T.heap, slotsUsed := T.slotsUsed } : State).setVm T.vm)).since 0) (Nat.zero_le _) (Fr.nil _) (fun b cl q => by show T.heap[b]? = some cl; rw [eT]; exact hE.2 b cl q) (hBT rfl).1 hnot hh hcw ht hz hl rfl (hb hG.2.1 hd) hn hbig (by show 0 + 2 ≤ 2; omega) (by show 0 + (nn + 4) ≤ nn + 4; omega)
  obtain ⟨X2, hS2, hWT'⟩ := Stand.unbase X X' hS' (by rw [e']; exact hk')
  have eL : L ++ [] = L := List.append_nil L
  rw [eL] at X2
  have X3 := X2.mono (cells' := k + 2) (slots' := n + (nn + 4)) (by omega) (by omega)
  have hEh : Ext Z.heap h' := ⟨Nat.le_trans hE.1 E'.1, fun x cl q => E'.2 x cl (hE.2 x cl q)⟩
  have hB' : Books Z T'.vm (true, text :: Ts, (y.cls, index, a) :: Lt) := fun _ => ⟨I', fun x hx => by
    rcases List.mem_cons.mp hx with rfl | hx
    · exact Lit'
    · exact Lit.stays (s := T) ((hBT rfl).2 x hx) hWT'⟩
  obtain ⟨s₂, o, hs2, rr⟩ := H a b kb h' E' A1 A2 A3 A4 hG hsz T' L ⟨T'.vm, T'.heap.size, X3, e', hS.trans hS2 (by rw [e']; exact Nat.le_trans hk E'.1), by rw [e']; exact Nat.le_refl _, hZ', hown', nofun, fun _ => hB', hEh, hF⟩
  exact ⟨s₂, o, s' _ hs2, rr⟩
/-- a load of an entry that is known to be resolved -/
theorem Wlk.ldcOld {index : Nat} {text : String} {Ts : List String} {Lt : List (String × Nat × Addr)} {a : Addr} (hd : decode code pc = .ok (.ldc index, 2)) (wl : (Cond.stringLink y.cls index text).before a0 Z = true) (hin : (y.cls, index, a) ∈ Lt) (hp : pc + 2 = pc')
    (H : Wlk G R Z y code ret true (true, Ts, Lt) Q h k n pc' Ls (.ref a :: st)) : Wlk G R Z y code ret true (true, Ts, Lt) Q h k n pc Ls st := by
  subst hp
  intro hG hsz T L hP
  obtain ⟨s₂, o, hs, r⟩ := H hG hsz T L hP
  obtain ⟨vm0, k0, X, eT, hS, hk, hZ, hown, hw, hB, hE, hF⟩ := hP
  exact ⟨s₂, o, ldcAgain X hG.1 hZ hown wl ((hB rfl rfl).2 _ hin) (g := mkF G.m pc Ls st) rfl (hb hG.2.1 hd) _ hs, r⟩
/-- a load of which nothing is known but that it pushes a reference -/
theorem Wlk.ldcAny {index nn : Nat} {text : String} {J' : JJ} (hJ : J'.1 = false) (hd : decode code pc = .ok (.ldc index, 2)) (wl : (Cond.stringLink y.cls index text).before a0 Z = true) (wS : ∀ a ∈ Bundle.stringAtoms, a.before a0 Z = true) (hn : 4 * text.toList.length ≤ nn) (hbig : nn ≤ 536870912) (hc : k + 2 ≤ R.cells) (hs : n + (nn + 4) ≤ R.slots) (hp : pc + 2 = pc')
    (H : ∀ (a : Addr) (h' : Heap), Ext h h' → Wlk G R Z y code ret true J' Q h' (k + 2) (n + (nn + 4)) pc' Ls (.ref a :: st)) : Wlk G R Z y code ret true J Q h k n pc Ls st := by
  subst hp
  intro hG hsz T L hP
  obtain ⟨vm0, k0, X, eT, hS, hk, hZ, hown, hw, hB, hE, hF⟩ := hP
  obtain ⟨a, T', h', k1, X', e', E', hS', hk', hZ', hown', s'⟩ := ldcS X hG.1 hZ hown wl wS eT hS hk (g := mkF G.m pc Ls st) rfl (hb hG.2.1 hd) hn hbig hc hs
  have hEh : Ext Z.heap h' := ⟨Nat.le_trans hE.1 E'.1, fun x cl q => E'.2 x cl (hE.2 x cl q)⟩
  obtain ⟨s₂, o, hs2, rr⟩ := H a h' E' hG hsz T' L ⟨T'.vm, k1, X', e', hS', hk', hZ', hown', nofun, fun _ q => (by rw [hJ] at q; cases q), hEh, hF⟩
  exact ⟨s₂, o, s' _ hs2, rr⟩
end Walk
end Jvm.Own
namespace Jvm.Own
open Sem ClassFile Op Lib Jvm.Stand Jvm.Free Jvm.LawKit Jvm.RoadKit
/-! ## numbers -/
theorem i32_toInt {i : Nat} (h : i < 2147483648) : (Int32.ofNat i).toInt = i := Int32.toInt_ofNat_small (by omega)
theorem z32 : (0 : Int32).toInt = 0 := by decide
theorem i32_nn {i : Nat} (h : i < 2147483648) : ¬ Int32.ofNat i < 0 := by
  rw [Int32.lt_iff_toInt_lt, i32_toInt h, z32]; omega
theorem i32_cl {i : Nat} (h : i < 2147483648) : (Int32.ofNat i).toNatClampNeg = i := by
  show (Int32.ofNat i).toInt.toNat = i
  rw [i32_toInt h]; rfl
theorem i32_lt {i j : Nat} (hi : i < 2147483648) (hj : j < 2147483648) : Int32.ofNat i < Int32.ofNat j ↔ i < j := by
  rw [Int32.lt_iff_toInt_lt, i32_toInt hi, i32_toInt hj]; omega
theorem i32_eq {i j : Nat} (hi : i < 2147483648) (hj : j < 2147483648) : Int32.ofNat i = Int32.ofNat j ↔ i = j := by
  rw [← Int32.toInt_inj, i32_toInt hi, i32_toInt hj]; omega
theorem i32_add (i j : Nat) : Int32.ofNat i + Int32.ofNat j = Int32.ofNat (i + j) := (Int32.ofNat_add i j).symm
theorem i32_succ (i : Nat) : Int32.ofNat i + 1 = Int32.ofNat (i + 1) := i32_add i 1
/-! ## what a String's bytes are -/
/-- a char's byte in a Latin-1 String -/
def bL (c : Int32) : Int32 := c.toInt8.toInt32
/-- .. its second byte in a UTF-16 one -/
def bH (c : Int32) : Int32 := (c >>> 8).toInt8.toInt32
theorem nar_bL (c : Int32) : nar .byte (bL c) = bL c := by simp [nar, bL]
theorem nar_bH (c : Int32) : nar .byte (bH c) = bH c := by simp [nar, bH]
def vL (cs : List Int32) : List Value := cs.map fun c => .int (bL c)
def vU : List Int32 → List Value
  | [] => []
  | c :: cs => .int (bL c) :: .int (bH c) :: vU cs
def vC (cs : List Int32) : List Value := cs.map Value.int
/-- the chars ahead of the first that is above 255 -/
def lat (cs : List Int32) : List Int32 := cs.takeWhile fun c => decide (¬ (255 : Int32) < c)
theorem lat_app {pre rest : List Int32} (h : ∀ c ∈ pre, ¬ (255 : Int32) < c) : lat (pre ++ rest) = pre ++ lat rest := by
  unfold lat
  rw [List.takeWhile_append_of_pos (fun c hc => decide_eq_true (h c hc))]
theorem lat_all {cs : List Int32} (h : ∀ c ∈ cs, ¬ (255 : Int32) < c) : lat cs = cs := by
  have := lat_app (rest := []) h
  simpa [lat] using this
theorem lat_stop {c : Int32} {rest : List Int32} (h : (255 : Int32) < c) : lat (c :: rest) = [] := by simp [lat, h]
theorem lat_mem : ∀ {cs : List Int32}, lat cs = cs → ∀ c ∈ cs, ¬ (255 : Int32) < c
  | [], _, c, hc => nomatch hc
  | x :: cs, h, c, hc => by
    by_cases hx : (255 : Int32) < x
    · rw [lat_stop hx] at h
      cases h
    · have h2 : lat (x :: cs) = x :: lat cs := by unfold lat; rw [List.takeWhile_cons, if_pos (decide_eq_true hx)]
      rw [h2] at h
      injection h with _ h3
      rcases List.mem_cons.mp hc with rfl | hc
      · exact hx
      · exact lat_mem h3 c hc
end Jvm.Own
namespace Jvm.Own
open Sem ClassFile Op Lib Jvm.Stand Jvm.Free Jvm.LawKit Jvm.RoadKit
theorem set_vL (pre : List Int32) (c : Int32) : (vL pre ++ List.replicate 1 (Value.int 0)).set pre.length (Value.int (nar .byte c.toInt8.toInt32)) = vL (pre ++ [c]) := by
  have e : (vL pre).length = pre.length := by simp [vL]
  rw [← e, List.set_append_right _ _ (Nat.le_refl _)]
  simp [vL, nar, bL]
end Jvm.Own
namespace Jvm.Own
open Sem ClassFile Op Lib Jvm.Stand Jvm.Free Jvm.LawKit Jvm.RoadKit
/-- a Latin-1 String at s, its bytes at t, that spells cs -/
def StrL (Z : State) (h : Heap) (s t : Addr) (cs : List Int32) : Prop :=
  Exa Z h s "java/lang/String" ∧ Fld Z h s "java/lang/String" "value" "[B" (.ref t) ∧ Fld Z h s "java/lang/String" "coder" "B" (.int 0) ∧ ∃ kb, Arv Z h t kb .byte (Int32.ofNat cs.length) (vL cs) (.int 0)
theorem StrL.ext {Z : State} {h h' : Heap} {s t : Addr} {cs : List Int32} (S : StrL Z h s t cs) (E : Ext h h') : StrL Z h' s t cs := by
  obtain ⟨a, b, c, kb, d⟩ := S
  exact ⟨a.ext E, b.ext E, c.ext E, kb, d.ext E⟩
theorem StrL.keep {Z : State} {h h' : Heap} {s t : Addr} {cs : List Int32} {ws : List Addr} (S : StrL Z h s t cs) (K : Keep h h' ws) (q1 : s ∉ ws) (q2 : t ∉ ws) : StrL Z h' s t cs := by
  obtain ⟨a, b, c, kb, d⟩ := S
  exact ⟨a.keep K, b.keep K q1, c.keep K q1, kb, d.keep K q2⟩
theorem StrL.wr {Z : State} {h h' : Heap} {s t a : Addr} {cs : List Int32} {sl : Nat} {v : Value} (S : StrL Z h s t cs) (W : Wr h h' a sl v) (q1 : s ≠ a) (q2 : t ≠ a) : StrL Z h' s t cs := by
  obtain ⟨x, b, c, kb, d⟩ := S
  exact ⟨x.wr W, b.other W (Or.inl q1), c.other W (Or.inl q1), kb, d.other W q2⟩
theorem StrL.lt {Z : State} {h : Heap} {s t : Addr} {cs : List Int32} (S : StrL Z h s t cs) : s < h.size := S.1.lt
theorem StrL.ltT {Z : State} {h : Heap} {s t : Addr} {cs : List Int32} (S : StrL Z h s t cs) : t < h.size := by obtain ⟨-, -, -, kb, d⟩ := S; exact d.lt
end Jvm.Own
namespace Jvm.Own
open Sem ClassFile Op Lib Jvm.Stand Jvm.Free Jvm.LawKit Jvm.RoadKit
theorem sto_arv {Z : State} {h : Heap} {a x : Addr} {k : ClassId} {ty : FieldType} {z : Int32} {vs : List Value} {d : Value} {C : String} (A : Arv Z h a k ty z vs d) (O : Ovr Z k C) (I : Ins Z h x C true) : Sto Z h a (.ref x) := by
  obtain ⟨c, Ar, q, -⟩ := A
  exact Sto.ofV Ar q O I
end Jvm.Own
namespace Jvm.Pilot.@@N@@
open Jvm Jvm.ClassFile Sem Op Lib Jvm.Free Jvm.Stand Jvm.LawKit Jvm.RoadKit Jvm.Own Bundle Jvm.Pilot.@@N@@.Jvm.D
theorem dc_jdk_52_method_21_code_0 : decode jdk_52_method_21_code 0 = .ok (.iconst 0, 1) := by decide +kernel
theorem dc_jdk_52_method_21_code_1 : decode jdk_52_method_21_code 1 = .ok (.istore 5, 2) := by decide +kernel
theorem dc_jdk_52_method_21_code_3 : decode jdk_52_method_21_code 3 = .ok (.iload 5, 2) := by decide +kernel
theorem dc_jdk_52_method_21_code_5 : decode jdk_52_method_21_code 5 = .ok (.iload 4, 2) := by decide +kernel
theorem dc_jdk_52_method_21_code_7 : decode jdk_52_method_21_code 7 = .ok (.if_icmp .ge 37, 3) := by decide +kernel
theorem dc_jdk_52_method_21_code_44 : decode jdk_52_method_21_code 44 = .ok (.iload 4, 2) := by decide +kernel
theorem dc_jdk_52_method_21_code_46 : decode jdk_52_method_21_code 46 = .ok (.ireturn, 1) := by decide +kernel
theorem dc_jdk_52_method_21_code_10 : decode jdk_52_method_21_code 10 = .ok (.aload_n 0, 1) := by decide +kernel
theorem dc_jdk_52_method_21_code_11 : decode jdk_52_method_21_code 11 = .ok (.iload_n 1, 1) := by decide +kernel
theorem dc_jdk_52_method_21_code_12 : decode jdk_52_method_21_code 12 = .ok (.caload, 1) := by decide +kernel
theorem dc_jdk_52_method_21_code_13 : decode jdk_52_method_21_code 13 = .ok (.istore 6, 2) := by decide +kernel
theorem dc_jdk_52_method_21_code_15 : decode jdk_52_method_21_code 15 = .ok (.iload 6, 2) := by decide +kernel
theorem dc_jdk_52_method_21_code_17 : decode jdk_52_method_21_code 17 = .ok (.sipush 255, 3) := by decide +kernel
theorem dc_jdk_52_method_21_code_20 : decode jdk_52_method_21_code 20 = .ok (.if_icmp .le 6, 3) := by decide +kernel
theorem dc_jdk_52_method_21_code_26 : decode jdk_52_method_21_code 26 = .ok (.aload_n 2, 1) := by decide +kernel
theorem dc_jdk_52_method_21_code_27 : decode jdk_52_method_21_code 27 = .ok (.iload_n 3, 1) := by decide +kernel
theorem dc_jdk_52_method_21_code_28 : decode jdk_52_method_21_code 28 = .ok (.iload 6, 2) := by decide +kernel
theorem dc_jdk_52_method_21_code_30 : decode jdk_52_method_21_code 30 = .ok (.i2b, 1) := by decide +kernel
theorem dc_jdk_52_method_21_code_31 : decode jdk_52_method_21_code 31 = .ok (.bastore, 1) := by decide +kernel
theorem dc_jdk_52_method_21_code_32 : decode jdk_52_method_21_code 32 = .ok (.iinc 1 1, 3) := by decide +kernel
theorem dc_jdk_52_method_21_code_35 : decode jdk_52_method_21_code 35 = .ok (.iinc 3 1, 3) := by decide +kernel
theorem dc_jdk_52_method_21_code_38 : decode jdk_52_method_21_code 38 = .ok (.iinc 5 1, 3) := by decide +kernel
theorem dc_jdk_52_method_21_code_41 : decode jdk_52_method_21_code 41 = .ok (.goto (-38), 3) := by decide +kernel
theorem dc_jdk_52_method_21_code_23 : decode jdk_52_method_21_code 23 = .ok (.iload 5, 2) := by decide +kernel
theorem dc_jdk_52_method_21_code_25 : decode jdk_52_method_21_code 25 = .ok (.ireturn, 1) := by decide +kernel
theorem dc_jdk_52_method_16_code_0 : decode jdk_52_method_16_code 0 = .ok (.iload_n 2, 1) := by decide +kernel
theorem dc_jdk_52_method_16_code_1 : decode jdk_52_method_16_code 1 = .ok (.newarray .byte, 2) := by decide +kernel
theorem dc_jdk_52_method_16_code_3 : decode jdk_52_method_16_code 3 = .ok (.astore_n 3, 1) := by decide +kernel
theorem dc_jdk_52_method_16_code_4 : decode jdk_52_method_16_code 4 = .ok (.aload_n 0, 1) := by decide +kernel
theorem dc_jdk_52_method_16_code_5 : decode jdk_52_method_16_code 5 = .ok (.iload_n 1, 1) := by decide +kernel
theorem dc_jdk_52_method_16_code_6 : decode jdk_52_method_16_code 6 = .ok (.aload_n 3, 1) := by decide +kernel
theorem dc_jdk_52_method_16_code_7 : decode jdk_52_method_16_code 7 = .ok (.iconst 0, 1) := by decide +kernel
theorem dc_jdk_52_method_16_code_8 : decode jdk_52_method_16_code 8 = .ok (.iload_n 2, 1) := by decide +kernel
theorem dc_jdk_52_method_16_code_9 : decode jdk_52_method_16_code 9 = .ok (.invokestatic 115, 3) := by decide +kernel
theorem dc_jdk_52_method_16_code_12 : decode jdk_52_method_16_code 12 = .ok (.istore 4, 2) := by decide +kernel
theorem dc_jdk_52_method_16_code_14 : decode jdk_52_method_16_code 14 = .ok (.iload 4, 2) := by decide +kernel
theorem dc_jdk_52_method_16_code_16 : decode jdk_52_method_16_code 16 = .ok (.iload_n 2, 1) := by decide +kernel
theorem dc_jdk_52_method_16_code_17 : decode jdk_52_method_16_code 17 = .ok (.if_icmp .eq 40, 3) := by decide +kernel
theorem dc_jdk_52_method_16_code_57 : decode jdk_52_method_16_code 57 = .ok (.aload_n 3, 1) := by decide +kernel
theorem dc_jdk_52_method_16_code_58 : decode jdk_52_method_16_code 58 = .ok (.areturn, 1) := by decide +kernel
theorem dc_jdk_52_method_15_code_0 : decode jdk_52_method_15_code 0 = .ok (.iload_n 1, 1) := by decide +kernel
theorem dc_jdk_52_method_15_code_1 : decode jdk_52_method_15_code 1 = .ok (.aload_n 0, 1) := by decide +kernel
theorem dc_jdk_52_method_15_code_2 : decode jdk_52_method_15_code 2 = .ok (.arraylength, 1) := by decide +kernel
theorem dc_jdk_52_method_15_code_3 : decode jdk_52_method_15_code 3 = .ok (.isub, 1) := by decide +kernel
theorem dc_jdk_52_method_15_code_4 : decode jdk_52_method_15_code 4 = .ok (.bipush 31, 2) := by decide +kernel
theorem dc_jdk_52_method_15_code_6 : decode jdk_52_method_15_code 6 = .ok (.iushr, 1) := by decide +kernel
theorem dc_jdk_52_method_15_code_7 : decode jdk_52_method_15_code 7 = .ok (.i2b, 1) := by decide +kernel
theorem dc_jdk_52_method_15_code_8 : decode jdk_52_method_15_code 8 = .ok (.ireturn, 1) := by decide +kernel
theorem dc_jdk_42_method_149_code_0 : decode jdk_42_method_149_code 0 = .ok (.aload_n 0, 1) := by decide +kernel
theorem dc_jdk_42_method_149_code_1 : decode jdk_42_method_149_code 1 = .ok (.invokespecial 1, 3) := by decide +kernel
theorem dc_jdk_42_method_149_code_4 : decode jdk_42_method_149_code 4 = .ok (.iload_n 3, 1) := by decide +kernel
theorem dc_jdk_42_method_149_code_5 : decode jdk_42_method_149_code 5 = .ok (.ifCond .ne 22, 3) := by decide +kernel
theorem dc_jdk_42_method_149_code_27 : decode jdk_42_method_149_code 27 = .ok (.getstatic 38, 3) := by decide +kernel
theorem dc_jdk_42_method_149_code_30 : decode jdk_42_method_149_code 30 = .ok (.ifCond .eq 28, 3) := by decide +kernel
theorem dc_jdk_42_method_149_code_33 : decode jdk_42_method_149_code 33 = .ok (.aload_n 1, 1) := by decide +kernel
theorem dc_jdk_42_method_149_code_34 : decode jdk_42_method_149_code 34 = .ok (.iload_n 2, 1) := by decide +kernel
theorem dc_jdk_42_method_149_code_35 : decode jdk_42_method_149_code 35 = .ok (.iload_n 3, 1) := by decide +kernel
theorem dc_jdk_42_method_149_code_36 : decode jdk_42_method_149_code 36 = .ok (.invokestatic 177, 3) := by decide +kernel
theorem dc_jdk_42_method_149_code_39 : decode jdk_42_method_149_code 39 = .ok (.astore 5, 2) := by decide +kernel
theorem dc_jdk_42_method_149_code_41 : decode jdk_42_method_149_code 41 = .ok (.aload_n 0, 1) := by decide +kernel
theorem dc_jdk_42_method_149_code_42 : decode jdk_42_method_149_code 42 = .ok (.aload 5, 2) := by decide +kernel
theorem dc_jdk_42_method_149_code_44 : decode jdk_42_method_149_code 44 = .ok (.iload_n 3, 1) := by decide +kernel
theorem dc_jdk_42_method_149_code_45 : decode jdk_42_method_149_code 45 = .ok (.invokestatic 47, 3) := by decide +kernel
theorem dc_jdk_42_method_149_code_48 : decode jdk_42_method_149_code 48 = .ok (.putfield 15, 3) := by decide +kernel
theorem dc_jdk_42_method_149_code_51 : decode jdk_42_method_149_code 51 = .ok (.aload_n 0, 1) := by decide +kernel
theorem dc_jdk_42_method_149_code_52 : decode jdk_42_method_149_code 52 = .ok (.aload 5, 2) := by decide +kernel
theorem dc_jdk_42_method_149_code_54 : decode jdk_42_method_149_code 54 = .ok (.putfield 9, 3) := by decide +kernel
theorem dc_jdk_42_method_149_code_57 : decode jdk_42_method_149_code 57 = .ok (.return_, 1) := by decide +kernel
theorem dc_jdk_42_method_3_code_0 : decode jdk_42_method_3_code 0 = .ok (.aload_n 0, 1) := by decide +kernel
theorem dc_jdk_42_method_3_code_1 : decode jdk_42_method_3_code 1 = .ok (.aload_n 1, 1) := by decide +kernel
theorem dc_jdk_42_method_3_code_2 : decode jdk_42_method_3_code 2 = .ok (.iconst 0, 1) := by decide +kernel
theorem dc_jdk_42_method_3_code_3 : decode jdk_42_method_3_code 3 = .ok (.aload_n 1, 1) := by decide +kernel
theorem dc_jdk_42_method_3_code_4 : decode jdk_42_method_3_code 4 = .ok (.arraylength, 1) := by decide +kernel
theorem dc_jdk_42_method_3_code_5 : decode jdk_42_method_3_code 5 = .ok (.aconst_null, 1) := by decide +kernel
theorem dc_jdk_42_method_3_code_6 : decode jdk_42_method_3_code 6 = .ok (.invokespecial 27, 3) := by decide +kernel
theorem dc_jdk_42_method_3_code_9 : decode jdk_42_method_3_code 9 = .ok (.return_, 1) := by decide +kernel
theorem dc_jdk_42_method_149_code_8 : decode jdk_42_method_149_code 8 = .ok (.aload_n 0, 1) := by decide +kernel
theorem dc_jdk_42_method_149_code_9 : decode jdk_42_method_149_code 9 = .ok (.ldc 7, 2) := by decide +kernel
theorem dc_jdk_42_method_149_code_11 : decode jdk_42_method_149_code 11 = .ok (.getfield 9, 3) := by decide +kernel
theorem dc_jdk_42_method_149_code_14 : decode jdk_42_method_149_code 14 = .ok (.putfield 9, 3) := by decide +kernel
theorem dc_jdk_42_method_149_code_17 : decode jdk_42_method_149_code 17 = .ok (.aload_n 0, 1) := by decide +kernel
theorem dc_jdk_42_method_149_code_18 : decode jdk_42_method_149_code 18 = .ok (.ldc 7, 2) := by decide +kernel
theorem dc_jdk_42_method_149_code_20 : decode jdk_42_method_149_code 20 = .ok (.getfield 15, 3) := by decide +kernel
theorem dc_jdk_42_method_149_code_23 : decode jdk_42_method_149_code 23 = .ok (.putfield 15, 3) := by decide +kernel
theorem dc_jdk_42_method_149_code_26 : decode jdk_42_method_149_code 26 = .ok (.return_, 1) := by decide +kernel
theorem dc_method_2_code_0 : decode method_2_code 0 = .ok (.iload_n 1, 1) := by decide +kernel
theorem dc_method_2_code_1 : decode method_2_code 1 = .ok (.sipush 255, 3) := by decide +kernel
theorem dc_method_2_code_4 : decode method_2_code 4 = .ok (.iand, 1) := by decide +kernel
theorem dc_method_2_code_5 : decode method_2_code 5 = .ok (.i2c, 1) := by decide +kernel
theorem dc_method_2_code_6 : decode method_2_code 6 = .ok (.istore 4, 2) := by decide +kernel
theorem dc_method_2_code_8 : decode method_2_code 8 = .ok (.iload_n 2, 1) := by decide +kernel
theorem dc_method_2_code_9 : decode method_2_code 9 = .ok (.sipush 255, 3) := by decide +kernel
theorem dc_method_2_code_12 : decode method_2_code 12 = .ok (.iand, 1) := by decide +kernel
theorem dc_method_2_code_13 : decode method_2_code 13 = .ok (.i2c, 1) := by decide +kernel
theorem dc_method_2_code_14 : decode method_2_code 14 = .ok (.istore 5, 2) := by decide +kernel
theorem dc_method_2_code_16 : decode method_2_code 16 = .ok (.iload_n 3, 1) := by decide +kernel
theorem dc_method_2_code_17 : decode method_2_code 17 = .ok (.sipush 255, 3) := by decide +kernel
theorem dc_method_2_code_20 : decode method_2_code 20 = .ok (.iand, 1) := by decide +kernel
theorem dc_method_2_code_21 : decode method_2_code 21 = .ok (.i2c, 1) := by decide +kernel
theorem dc_method_2_code_22 : decode method_2_code 22 = .ok (.istore 6, 2) := by decide +kernel
theorem dc_method_2_code_24 : decode method_2_code 24 = .ok (.iload_n 0, 1) := by decide +kernel
theorem dc_method_2_code_25 : decode method_2_code 25 = .ok (.ifCond .ne 14, 3) := by decide +kernel
theorem dc_method_2_code_39 : decode method_2_code 39 = .ok (.iload_n 0, 1) := by decide +kernel
theorem dc_method_2_code_40 : decode method_2_code 40 = .ok (.iconst 1, 1) := by decide +kernel
theorem dc_method_2_code_41 : decode method_2_code 41 = .ok (.if_icmp .ne 19, 3) := by decide +kernel
theorem dc_method_2_code_60 : decode method_2_code 60 = .ok (.iload_n 0, 1) := by decide +kernel
theorem dc_method_2_code_61 : decode method_2_code 61 = .ok (.iconst 2, 1) := by decide +kernel
theorem dc_method_2_code_62 : decode method_2_code 62 = .ok (.if_icmp .ne 24, 3) := by decide +kernel
theorem dc_method_2_code_86 : decode method_2_code 86 = .ok (.new 7, 3) := by decide +kernel
theorem dc_method_2_code_89 : decode method_2_code 89 = .ok (.dup, 1) := by decide +kernel
theorem dc_method_2_code_90 : decode method_2_code 90 = .ok (.iconst 3, 1) := by decide +kernel
theorem dc_method_2_code_91 : decode method_2_code 91 = .ok (.newarray .char, 2) := by decide +kernel
theorem dc_method_2_code_93 : decode method_2_code 93 = .ok (.dup, 1) := by decide +kernel
theorem dc_method_2_code_94 : decode method_2_code 94 = .ok (.iconst 0, 1) := by decide +kernel
theorem dc_method_2_code_95 : decode method_2_code 95 = .ok (.iload 4, 2) := by decide +kernel
theorem dc_method_2_code_97 : decode method_2_code 97 = .ok (.castore, 1) := by decide +kernel
theorem dc_method_2_code_98 : decode method_2_code 98 = .ok (.dup, 1) := by decide +kernel
theorem dc_method_2_code_99 : decode method_2_code 99 = .ok (.iconst 1, 1) := by decide +kernel
theorem dc_method_2_code_100 : decode method_2_code 100 = .ok (.iload 5, 2) := by decide +kernel
theorem dc_method_2_code_102 : decode method_2_code 102 = .ok (.castore, 1) := by decide +kernel
theorem dc_method_2_code_103 : decode method_2_code 103 = .ok (.dup, 1) := by decide +kernel
theorem dc_method_2_code_104 : decode method_2_code 104 = .ok (.iconst 2, 1) := by decide +kernel
theorem dc_method_2_code_105 : decode method_2_code 105 = .ok (.iload 6, 2) := by decide +kernel
theorem dc_method_2_code_107 : decode method_2_code 107 = .ok (.castore, 1) := by decide +kernel
theorem dc_method_2_code_108 : decode method_2_code 108 = .ok (.invokespecial 9, 3) := by decide +kernel
theorem dc_method_2_code_111 : decode method_2_code 111 = .ok (.areturn, 1) := by decide +kernel
theorem dc_method_2_code_65 : decode method_2_code 65 = .ok (.new 7, 3) := by decide +kernel
theorem dc_method_2_code_68 : decode method_2_code 68 = .ok (.dup, 1) := by decide +kernel
theorem dc_method_2_code_69 : decode method_2_code 69 = .ok (.iconst 2, 1) := by decide +kernel
theorem dc_method_2_code_70 : decode method_2_code 70 = .ok (.newarray .char, 2) := by decide +kernel
theorem dc_method_2_code_72 : decode method_2_code 72 = .ok (.dup, 1) := by decide +kernel
theorem dc_method_2_code_73 : decode method_2_code 73 = .ok (.iconst 0, 1) := by decide +kernel
theorem dc_method_2_code_74 : decode method_2_code 74 = .ok (.iload 4, 2) := by decide +kernel
theorem dc_method_2_code_76 : decode method_2_code 76 = .ok (.castore, 1) := by decide +kernel
theorem dc_method_2_code_77 : decode method_2_code 77 = .ok (.dup, 1) := by decide +kernel
theorem dc_method_2_code_78 : decode method_2_code 78 = .ok (.iconst 1, 1) := by decide +kernel
theorem dc_method_2_code_79 : decode method_2_code 79 = .ok (.iload 5, 2) := by decide +kernel
theorem dc_method_2_code_81 : decode method_2_code 81 = .ok (.castore, 1) := by decide +kernel
theorem dc_method_2_code_82 : decode method_2_code 82 = .ok (.invokespecial 9, 3) := by decide +kernel
theorem dc_method_2_code_85 : decode method_2_code 85 = .ok (.areturn, 1) := by decide +kernel
theorem dc_method_2_code_44 : decode method_2_code 44 = .ok (.new 7, 3) := by decide +kernel
theorem dc_method_2_code_47 : decode method_2_code 47 = .ok (.dup, 1) := by decide +kernel
theorem dc_method_2_code_48 : decode method_2_code 48 = .ok (.iconst 1, 1) := by decide +kernel
theorem dc_method_2_code_49 : decode method_2_code 49 = .ok (.newarray .char, 2) := by decide +kernel
theorem dc_method_2_code_51 : decode method_2_code 51 = .ok (.dup, 1) := by decide +kernel
theorem dc_method_2_code_52 : decode method_2_code 52 = .ok (.iconst 0, 1) := by decide +kernel
theorem dc_method_2_code_53 : decode method_2_code 53 = .ok (.iload 4, 2) := by decide +kernel
theorem dc_method_2_code_55 : decode method_2_code 55 = .ok (.castore, 1) := by decide +kernel
theorem dc_method_2_code_56 : decode method_2_code 56 = .ok (.invokespecial 9, 3) := by decide +kernel
theorem dc_method_2_code_59 : decode method_2_code 59 = .ok (.areturn, 1) := by decide +kernel
theorem dc_method_2_code_28 : decode method_2_code 28 = .ok (.new 7, 3) := by decide +kernel
theorem dc_method_2_code_31 : decode method_2_code 31 = .ok (.dup, 1) := by decide +kernel
theorem dc_method_2_code_32 : decode method_2_code 32 = .ok (.iconst 0, 1) := by decide +kernel
theorem dc_method_2_code_33 : decode method_2_code 33 = .ok (.newarray .char, 2) := by decide +kernel
theorem dc_method_2_code_35 : decode method_2_code 35 = .ok (.invokespecial 9, 3) := by decide +kernel
theorem dc_method_2_code_38 : decode method_2_code 38 = .ok (.areturn, 1) := by decide +kernel
theorem dc_prog_11_method_1_code_0 : decode prog_11_method_1_code 0 = .ok (.aload_n 0, 1) := by decide +kernel
theorem dc_prog_11_method_1_code_1 : decode prog_11_method_1_code 1 = .ok (.invokespecial 1, 3) := by decide +kernel
theorem dc_prog_11_method_1_code_4 : decode prog_11_method_1_code 4 = .ok (.aload_n 0, 1) := by decide +kernel
theorem dc_prog_11_method_1_code_5 : decode prog_11_method_1_code 5 = .ok (.aload_n 1, 1) := by decide +kernel
theorem dc_prog_11_method_1_code_6 : decode prog_11_method_1_code 6 = .ok (.putfield 7, 3) := by decide +kernel
theorem dc_prog_11_method_1_code_9 : decode prog_11_method_1_code 9 = .ok (.aload_n 0, 1) := by decide +kernel
theorem dc_prog_11_method_1_code_10 : decode prog_11_method_1_code 10 = .ok (.aload_n 2, 1) := by decide +kernel
theorem dc_prog_11_method_1_code_11 : decode prog_11_method_1_code 11 = .ok (.putfield 13, 3) := by decide +kernel
theorem dc_prog_11_method_1_code_14 : decode prog_11_method_1_code 14 = .ok (.return_, 1) := by decide +kernel
theorem dc_prog_11_method_4_code_0 : decode prog_11_method_4_code 0 = .ok (.new 8, 3) := by decide +kernel
theorem dc_prog_11_method_4_code_3 : decode prog_11_method_4_code 3 = .ok (.dup, 1) := by decide +kernel
theorem dc_prog_11_method_4_code_4 : decode prog_11_method_4_code 4 = .ok (.getstatic 20, 3) := by decide +kernel
theorem dc_prog_11_method_4_code_7 : decode prog_11_method_4_code 7 = .ok (.aload_n 0, 1) := by decide +kernel
theorem dc_prog_11_method_4_code_8 : decode prog_11_method_4_code 8 = .ok (.invokespecial 17, 3) := by decide +kernel
theorem dc_prog_11_method_4_code_11 : decode prog_11_method_4_code 11 = .ok (.areturn, 1) := by decide +kernel
theorem dc_prog_11_method_6_code_0 : decode prog_11_method_6_code 0 = .ok (.aload_n 0, 1) := by decide +kernel
theorem dc_prog_11_method_6_code_1 : decode prog_11_method_6_code 1 = .ok (.getfield 13, 3) := by decide +kernel
theorem dc_prog_11_method_6_code_4 : decode prog_11_method_6_code 4 = .ok (.areturn, 1) := by decide +kernel
theorem dc_prog_11_method_5_code_0 : decode prog_11_method_5_code 0 = .ok (.aload_n 0, 1) := by decide +kernel
theorem dc_prog_11_method_5_code_1 : decode prog_11_method_5_code 1 = .ok (.getfield 7, 3) := by decide +kernel
theorem dc_prog_11_method_5_code_4 : decode prog_11_method_5_code 4 = .ok (.areturn, 1) := by decide +kernel
theorem dc_jdk_42_method_66_code_0 : decode jdk_42_method_66_code 0 = .ok (.aload_n 0, 1) := by decide +kernel
theorem dc_jdk_42_method_66_code_1 : decode jdk_42_method_66_code 1 = .ok (.aload_n 1, 1) := by decide +kernel
theorem dc_jdk_42_method_66_code_2 : decode jdk_42_method_66_code 2 = .ok (.if_acmp .ne 5, 3) := by decide +kernel
theorem dc_jdk_42_method_66_code_5 : decode jdk_42_method_66_code 5 = .ok (.iconst 1, 1) := by decide +kernel
theorem dc_jdk_42_method_66_code_6 : decode jdk_42_method_66_code 6 = .ok (.ireturn, 1) := by decide +kernel
theorem dc_method_3_code_0 : decode method_3_code 0 = .ok (.aload_n 0, 1) := by decide +kernel
theorem dc_method_3_code_1 : decode method_3_code 1 = .ok (.ifnonnull 13, 3) := by decide +kernel
theorem dc_method_3_code_14 : decode method_3_code 14 = .ok (.aload_n 0, 1) := by decide +kernel
theorem dc_method_3_code_15 : decode method_3_code 15 = .ok (.aload_n 1, 1) := by decide +kernel
theorem dc_method_3_code_16 : decode method_3_code 16 = .ok (.invokevirtual 12, 3) := by decide +kernel
theorem dc_method_3_code_19 : decode method_3_code 19 = .ok (.ireturn, 1) := by decide +kernel
theorem dc_method_3_code_4 : decode method_3_code 4 = .ok (.aload_n 1, 1) := by decide +kernel
theorem dc_method_3_code_5 : decode method_3_code 5 = .ok (.ifnonnull 7, 3) := by decide +kernel
theorem dc_method_3_code_8 : decode method_3_code 8 = .ok (.iconst 1, 1) := by decide +kernel
theorem dc_method_3_code_9 : decode method_3_code 9 = .ok (.goto 4, 3) := by decide +kernel
theorem dc_method_3_code_13 : decode method_3_code 13 = .ok (.ireturn, 1) := by decide +kernel
theorem pd_0 : parseMethodDescriptor "([CI[BII)I" = some ⟨[(.array .char), .int, (.array .byte), .int, .int], some .int⟩ := by decide +kernel
theorem pd_1 : parseMethodDescriptor "([CII)[B" = some ⟨[(.array .char), .int, .int], some (.array .byte)⟩ := by decide +kernel
theorem pd_2 : parseMethodDescriptor "([BI)B" = some ⟨[(.array .byte), .int], some .byte⟩ := by decide +kernel
theorem pd_3 : parseMethodDescriptor "([CIILjava/lang/Void;)V" = some ⟨[(.array .char), .int, .int, (.object "java/lang/Void")], none⟩ := by decide +kernel
theorem pd_4 : parseMethodDescriptor "([C)V" = some ⟨[(.array .char)], none⟩ := by decide +kernel
theorem pd_5 : parseMethodDescriptor "(Lcom/example/strict_crosswalk/strictcrosswalk/description/Aspect$Part;Ljava/lang/String;)V" = some ⟨[(.object "com/example/strict_crosswalk/strictcrosswalk/description/Aspect$Part"), (.object "java/lang/String")], none⟩ := by decide +kernel
theorem pd_6 : parseMethodDescriptor "(Ljava/lang/Object;)Z" = some ⟨[(.object "java/lang/Object")], some .boolean⟩ := by decide +kernel
theorem pd_7 : parseMethodDescriptor "(IIII)Ljava/lang/String;" = some ⟨[.int, .int, .int, .int], some (.object "java/lang/String")⟩ := by decide +kernel
theorem pd_8 : parseMethodDescriptor "(Ljava/lang/String;)Lcom/example/strict_crosswalk/strictcrosswalk/description/Aspect;" = some ⟨[(.object "java/lang/String")], some (.object "com/example/strict_crosswalk/strictcrosswalk/description/Aspect")⟩ := by decide +kernel
theorem pd_9 : parseMethodDescriptor "()Lcom/example/strict_crosswalk/strictcrosswalk/description/Aspect$Part;" = some ⟨[], some (.object "com/example/strict_crosswalk/strictcrosswalk/description/Aspect$Part")⟩ := by decide +kernel
theorem pd_10 : parseMethodDescriptor "()Ljava/lang/String;" = some ⟨[], some (.object "java/lang/String")⟩ := by decide +kernel
theorem pd_11 : parseMethodDescriptor "(Ljava/lang/String;Ljava/lang/String;)Z" = some ⟨[(.object "java/lang/String"), (.object "java/lang/String")], some .boolean⟩ := by decide +kernel

theorem own_255 (x : Int32) : ¬ (255 : Int32) < (x &&& 255) := by
  have h := c_and x 255 (by decide)
  have h7 : (255 : Int32).toInt = 255 := by decide
  rw [Int32.lt_iff_toInt_lt, h7]
  omega
theorem own_c255 (x : Int32) : ¬ (255 : Int32) < nar .char ((x &&& 255).toUInt32.toUInt16.toUInt32.toInt32) := by
  simp only [nar, i2c_mask]
  exact own_255 x

set_option maxRecDepth 65536 in
set_option maxHeartbeats 40000000 in
theorem st_cmp5 {l : Launch} {Z : State} {a0 : Array Value} (hw : ∀ d ∈ tables_1, d.before a0 Z = true) (a b : Addr) (ka kb : ClassId) (cs : List Int32) (d : Value) (h0 : Heap) (A1 : Arv Z h0 a ka .char (Int32.ofNat cs.length) (vC cs) d) (B1 : Arv Z h0 b kb .byte (Int32.ofNat cs.length) [] (.int 0)) (hab : a ≠ b) (gb : Z.heap.size ≤ b) (hn : cs.length ≤ 4000) :
    Met l Z (⟨"java/lang/StringUTF16", "compress", "([CI[BII)I"⟩ : MethodName) jdk_52_method_21_code 7 (some .int) false [] ({ frames := 0, cells := 0, slots := 0, locals := 0 } : Room) #[(.ref a), (.int (0 : Int32)), (.ref b), (.int (0 : Int32)), (.int (Int32.ofNat cs.length))] h0 (false, [], []) (fun v h J => v = some (.int (Int32.ofNat (lat cs).length)) ∧ Keep h0 h [b] ∧ Arv Z h b kb .byte (Int32.ofNat cs.length) (vL (lat cs)) (.int 0)) := by
  refine Met.of_goes (Ls := #[.val (.ref a), .val (.int (0 : Int32)), .val (.ref b), .val (.int (0 : Int32)), .val (.int (Int32.ofNat cs.length)), .unset, .unset]) (by first | exact plainFor_of_name (by first | (simp [plainName, overriddenIn]; done) | decide +kernel) | decide +kernel) (fun m => by first | (simp [entryFrame, mkF, argsToLocals, Value.category]; done) | rfl) rfl (fun G hGl => ?_)
  subst hGl
  refine Wlk.iconst (pc' := 1) (v := (0 : Int32)) dc_jdk_52_method_21_code_0 rfl rfl ?_
  refine Wlk.istore (pc' := 3) (Ls' := #[.val (.ref a), .val (.int (0 : Int32)), .val (.ref b), .val (.int (0 : Int32)), .val (.int (Int32.ofNat cs.length)), .val (.int (0 : Int32)), .unset]) dc_jdk_52_method_21_code_1 rfl rfl rfl ?_
  have loop : ∀ (rest pre : List Int32) (h : Heap) (o6 : Slot), One o6 → cs = pre ++ rest → (∀ c ∈ pre, ¬ (255 : Int32) < c) → Keep h0 h [b] → Arv Z h b kb .byte (Int32.ofNat cs.length) (vL pre) (.int 0) → Wlk G ({ frames := 0, cells := 0, slots := 0, locals := 0 } : Room) Z (⟨"java/lang/StringUTF16", "compress", "([CI[BII)I"⟩ : MethodName) jdk_52_method_21_code (some .int) false (false, [], []) (fun v h J => v = some (.int (Int32.ofNat (lat cs).length)) ∧ Keep h0 h [b] ∧ Arv Z h b kb .byte (Int32.ofNat cs.length) (vL (lat cs)) (.int 0)) h 0 0 3 #[.val (.ref a), .val (.int (Int32.ofNat pre.length)), .val (.ref b), .val (.int (Int32.ofNat pre.length)), .val (.int (Int32.ofNat cs.length)), .val (.int (Int32.ofNat pre.length)), o6] [] := by
    intro rest
    induction rest with
    | nil =>
      intro pre h o6 ho hcs hp K B
      rw [List.append_nil] at hcs
      subst hcs
      refine Wlk.iload (pc' := 5) (v := (Int32.ofNat cs.length)) dc_jdk_52_method_21_code_3 rfl rfl ?_
      refine Wlk.iload (pc' := 7) (v := (Int32.ofNat cs.length)) dc_jdk_52_method_21_code_5 rfl rfl ?_
      refine Wlk.icT (pc' := 44) dc_jdk_52_method_21_code_7 (by decide) (by decide) (show ¬ ((Int32.ofNat cs.length) < (Int32.ofNat cs.length)) from (fun q => absurd ((i32_lt (by omega) (by omega)).mp q) (Nat.lt_irrefl _))) ?_
      refine Wlk.iload (pc' := 46) (v := (Int32.ofNat cs.length)) dc_jdk_52_method_21_code_44 rfl rfl ?_
      refine Wlk.ireturnI dc_jdk_52_method_21_code_46 rfl (by decide) (by decide) ?_
      exact ⟨by rw [lat_all hp], K, by rw [lat_all hp]; exact B⟩
    | cons c rest ih =>
      intro pre h o6 ho hcs hp K B
      have hl : cs.length = pre.length + (rest.length + 1) := by rw [hcs]; simp
      have A := A1.keep K (ninS hab nin0)
      have B2 := B.pad (pad_rep _ _ 1)
      refine Wlk.iload (pc' := 5) (v := (Int32.ofNat pre.length)) dc_jdk_52_method_21_code_3 rfl rfl ?_
      refine Wlk.iload (pc' := 7) (v := (Int32.ofNat cs.length)) dc_jdk_52_method_21_code_5 rfl rfl ?_
      refine Wlk.icF (pc' := 10) dc_jdk_52_method_21_code_7 (show (Int32.ofNat pre.length) < (Int32.ofNat cs.length) from ((i32_lt (by omega) (by omega)).mpr (by omega))) rfl ?_
      refine Wlk.aloadN (pc' := 11) (v := (.ref a)) dc_jdk_52_method_21_code_10 rfl rfl rfl ?_
      refine Wlk.iloadN (pc' := 12) (v := (Int32.ofNat pre.length)) dc_jdk_52_method_21_code_11 rfl rfl ?_
      refine Wlk.caload (pc' := 13) (v := (.int c)) dc_jdk_52_method_21_code_12 A ⟨i32_nn (by omega), (i32_lt (by omega) (by omega)).mpr (by omega)⟩ (by rw [i32_cl (by omega), hcs]; simp [vC]) rfl ?_
      refine Wlk.istore (pc' := 15) (Ls' := #[.val (.ref a), .val (.int (Int32.ofNat pre.length)), .val (.ref b), .val (.int (Int32.ofNat pre.length)), .val (.int (Int32.ofNat cs.length)), .val (.int (Int32.ofNat pre.length)), .val (.int c)]) dc_jdk_52_method_21_code_13 (XS.store1 (o := o6) rfl ho rfl) rfl rfl ?_
      refine Wlk.iload (pc' := 17) (v := c) dc_jdk_52_method_21_code_15 rfl rfl ?_
      refine Wlk.sipush (pc' := 20) (v := (255 : Int32)) dc_jdk_52_method_21_code_17 (by decide) rfl ?_
      refine Wlk.ic_ (pcT := 26) (pcF := 23) dc_jdk_52_method_21_code_20 (by decide) (by decide) rfl (fun (hc1 : ¬ ((255 : Int32) < c)) => ?_) (fun (hc1 : (255 : Int32) < c) => ?_)
      · skip
        refine Wlk.aloadN (pc' := 27) (v := (.ref b)) dc_jdk_52_method_21_code_26 rfl rfl rfl ?_
        refine Wlk.iloadN (pc' := 28) (v := (Int32.ofNat pre.length)) dc_jdk_52_method_21_code_27 rfl rfl ?_
        refine Wlk.iload (pc' := 30) (v := c) dc_jdk_52_method_21_code_28 rfl rfl ?_
        refine Wlk.i2b (pc' := 31) dc_jdk_52_method_21_code_30 rfl ?_
        refine Wlk.bastore (pc' := 32) (i := pre.length) dc_jdk_52_method_21_code_31 B2 ⟨i32_nn (by omega), (i32_lt (by omega) (by omega)).mpr (by omega)⟩ (i32_cl (by omega)) (by simp [vL]) gb rfl (fun h2 W3 A4 => ?_)
        refine Wlk.iinc (pc' := 35) (v := (1 : Int32)) (x := (Int32.ofNat pre.length)) (Ls' := #[.val (.ref a), .val (.int ((Int32.ofNat pre.length) + (1 : Int32))), .val (.ref b), .val (.int (Int32.ofNat pre.length)), .val (.int (Int32.ofNat cs.length)), .val (.int (Int32.ofNat pre.length)), .val (.int c)]) dc_jdk_52_method_21_code_32 (by decide) rfl rfl rfl rfl ?_
        refine Wlk.iinc (pc' := 38) (v := (1 : Int32)) (x := (Int32.ofNat pre.length)) (Ls' := #[.val (.ref a), .val (.int ((Int32.ofNat pre.length) + (1 : Int32))), .val (.ref b), .val (.int ((Int32.ofNat pre.length) + (1 : Int32))), .val (.int (Int32.ofNat cs.length)), .val (.int (Int32.ofNat pre.length)), .val (.int c)]) dc_jdk_52_method_21_code_35 (by decide) rfl rfl rfl rfl ?_
        refine Wlk.iinc (pc' := 41) (v := (1 : Int32)) (x := (Int32.ofNat pre.length)) (Ls' := #[.val (.ref a), .val (.int ((Int32.ofNat pre.length) + (1 : Int32))), .val (.ref b), .val (.int ((Int32.ofNat pre.length) + (1 : Int32))), .val (.int (Int32.ofNat cs.length)), .val (.int ((Int32.ofNat pre.length) + (1 : Int32))), .val (.int c)]) dc_jdk_52_method_21_code_38 (by decide) rfl rfl rfl rfl ?_
        refine Wlk.goto (pc' := 3) dc_jdk_52_method_21_code_41 (by decide) (by decide) ?_
        have e1 : Int32.ofNat pre.length + 1 = Int32.ofNat (pre ++ [c]).length := by rw [i32_succ]; simp
        rw [e1]
        refine ih (pre ++ [c]) _ _ (One.val rfl) (by rw [hcs]; simp) (fun x hx => ?_) (K.wr W3 (Or.inl (List.mem_of_getElem? (i := 0) rfl))) (set_vL pre c ▸ A4)
        rcases List.mem_append.mp hx with hx | hx
        · exact hp x hx
        · rw [List.mem_singleton.mp hx]; exact hc1
      · skip
        refine Wlk.iload (pc' := 25) (v := (Int32.ofNat pre.length)) dc_jdk_52_method_21_code_23 rfl rfl ?_
        refine Wlk.ireturnI dc_jdk_52_method_21_code_25 rfl (by decide) (by decide) ?_
        have el : lat cs = pre := by rw [hcs, lat_app hp, lat_stop hc1, List.append_nil]
        exact ⟨by rw [el], K, by rw [el]; exact B⟩
  exact loop cs [] h0 .unset One.u rfl (fun _ q => nomatch q) (Keep.refl _ _) B1

set_option maxRecDepth 65536 in
set_option maxHeartbeats 40000000 in
theorem st_cmp3 {l : Launch} {Z : State} {a0 : Array Value} (hw : ∀ d ∈ tables_1, d.before a0 Z = true) (a : Addr) (ka : ClassId) (cs : List Int32) (d : Value) (h0 : Heap) (A1 : Arv Z h0 a ka .char (Int32.ofNat cs.length) (vC cs) d) (hn : cs.length ≤ 3) (hL : ∀ c ∈ cs, ¬ (255 : Int32) < c) :
    Met l Z (⟨"java/lang/StringUTF16", "compress", "([CII)[B"⟩ : MethodName) jdk_52_method_16_code 6 (some (.array .byte)) false [] ({ frames := 1, cells := 1, slots := 3, locals := 18 } : Room) #[(.ref a), (.int (0 : Int32)), (.int (Int32.ofNat cs.length))] h0 (false, [], []) (fun v h J => ∃ (t : Addr) (kb : ClassId), v = some (.ref t) ∧ h0.size ≤ t ∧ Z.heap.size ≤ t ∧ Keep h0 h [] ∧ Arv Z h t kb .byte (Int32.ofNat cs.length) (vL cs) (.int 0)) := by
  refine Met.of_goes (Ls := #[.val (.ref a), .val (.int (0 : Int32)), .val (.int (Int32.ofNat cs.length)), .unset, .unset, .unset]) (by first | exact plainFor_of_name (by first | (simp [plainName, overriddenIn]; done) | decide +kernel) | decide +kernel) (fun m => by first | (simp [entryFrame, mkF, argsToLocals, Value.category]; done) | rfl) rfl (fun G hGl => ?_)
  subst hGl
  refine Wlk.iloadN (pc' := 1) (v := (Int32.ofNat cs.length)) dc_jdk_52_method_16_code_0 rfl rfl ?_
  refine Wlk.newP (pc' := 3) (ty := .byte) (cap := 3) dc_jdk_52_method_16_code_1 rfl (hw _ (List.mem_of_getElem? (i := 19) rfl)) (i32_nn (by omega)) (by rw [i32_cl (by omega)]; exact hn) (by decide) (by decide) (by decide) rfl (fun b5 h6 kc7 le8 g9 E10 A11 => ?_)
  refine Wlk.astoreN (pc' := 4) (Ls' := #[.val (.ref a), .val (.int (0 : Int32)), .val (.int (Int32.ofNat cs.length)), .val (.ref b5), .unset, .unset]) dc_jdk_52_method_16_code_3 rfl rfl rfl rfl ?_
  refine Wlk.aloadN (pc' := 5) (v := (.ref a)) dc_jdk_52_method_16_code_4 rfl rfl rfl ?_
  refine Wlk.iloadN (pc' := 6) (v := (0 : Int32)) dc_jdk_52_method_16_code_5 rfl rfl ?_
  refine Wlk.aloadN (pc' := 7) (v := (.ref b5)) dc_jdk_52_method_16_code_6 rfl rfl rfl ?_
  refine Wlk.iconst (pc' := 8) (v := (0 : Int32)) dc_jdk_52_method_16_code_7 rfl rfl ?_
  refine Wlk.iloadN (pc' := 9) (v := (Int32.ofNat cs.length)) dc_jdk_52_method_16_code_8 rfl rfl ?_
  have c12 := (A1.ext E10)
  refine Wlk.callS (pc' := 12) (z := (⟨"java/lang/StringUTF16", "compress", "([CI[BII)I"⟩ : MethodName)) (argsL := [(.ref a), (.int (0 : Int32)), (.ref b5), (.int (0 : Int32)), (.int (Int32.ofNat cs.length))]) (st := []) (W := 0) dc_jdk_52_method_16_code_9 (hw _ (List.mem_of_getElem? (i := 67) rfl)) (hw _ (List.mem_of_getElem? (i := 68) rfl)) (hw _ (List.mem_of_getElem? (i := 65) rfl)) (hw _ (List.mem_of_getElem? (i := 69) rfl)) (by decide) pd_0 rfl (st_cmp5 hw a b5 ka kc7 cs d h6 c12 A11 (Nat.ne_of_lt (Nat.lt_of_lt_of_le A1.lt (Nat.le_trans (Nat.le_refl _) le8))) g9 (by omega)) (by decide) rfl (by decide) (by decide) (by decide) rfl rfl (fun v13 h14 J15 q16 => ?_)
  rw [lat_all hL] at q16
  obtain ⟨rfl, K17, A18⟩ := q16
  show Wlk _ _ _ _ _ _ _ _ _ h14 1 3 12 #[.val (.ref a), .val (.int (0 : Int32)), .val (.int (Int32.ofNat cs.length)), .val (.ref b5), .unset, .unset] [(.int (Int32.ofNat cs.length))]
  refine Wlk.istore (pc' := 14) (Ls' := #[.val (.ref a), .val (.int (0 : Int32)), .val (.int (Int32.ofNat cs.length)), .val (.ref b5), .val (.int (Int32.ofNat cs.length)), .unset]) dc_jdk_52_method_16_code_12 rfl rfl rfl ?_
  refine Wlk.iload (pc' := 16) (v := (Int32.ofNat cs.length)) dc_jdk_52_method_16_code_14 rfl rfl ?_
  refine Wlk.iloadN (pc' := 17) (v := (Int32.ofNat cs.length)) dc_jdk_52_method_16_code_16 rfl rfl ?_
  refine Wlk.icT (pc' := 57) dc_jdk_52_method_16_code_17 (by decide) (by decide) (show (Int32.ofNat cs.length) = (Int32.ofNat cs.length) from rfl) ?_
  refine Wlk.aloadN (pc' := 58) (v := (.ref b5)) dc_jdk_52_method_16_code_57 rfl rfl rfl ?_
  refine Wlk.areturn (t := (.array .byte)) dc_jdk_52_method_16_code_58 rfl rfl rfl rfl (by decide) (by decide) ?_
  exact ⟨b5, kc7, rfl, (Nat.le_trans (Nat.le_refl _) le8), g9, (((Keep.refl h0 []).ext E10).trans K17 (allS (Or.inr (Nat.le_trans (Nat.le_refl _) le8)) all0)), A18⟩

set_option maxRecDepth 65536 in
set_option maxHeartbeats 40000000 in
theorem st_cod {l : Launch} {Z : State} {a0 : Array Value} (hw : ∀ d ∈ tables_1, d.before a0 Z = true) (t : Addr) (kb : ClassId) (N : Int32) (vs : List Value) (d : Value) (h0 : Heap) (B1 : Arv Z h0 t kb .byte N vs d) :
    Met l Z (⟨"java/lang/StringUTF16", "coderFromArrayLen", "([BI)B"⟩ : MethodName) jdk_52_method_15_code 2 (some .byte) false [] ({ frames := 0, cells := 0, slots := 0, locals := 0 } : Room) #[(.ref t), (.int N)] h0 (false, [], []) (fun v h J => v = some (.int 0) ∧ h0 = h) := by
  refine Met.of_goes (Ls := #[.val (.ref t), .val (.int N)]) (by first | exact plainFor_of_name (by first | (simp [plainName, overriddenIn]; done) | decide +kernel) | decide +kernel) (fun m => by first | (simp [entryFrame, mkF, argsToLocals, Value.category]; done) | rfl) rfl (fun G hGl => ?_)
  subst hGl
  refine Wlk.iloadN (pc' := 1) (v := N) dc_jdk_52_method_15_code_0 rfl rfl ?_
  refine Wlk.aloadN (pc' := 2) (v := (.ref t)) dc_jdk_52_method_15_code_1 rfl rfl rfl ?_
  refine Wlk.arraylength (pc' := 3) dc_jdk_52_method_15_code_2 B1 rfl ?_
  refine Wlk.isub (pc' := 4) dc_jdk_52_method_15_code_3 rfl ?_
  refine Wlk.bipush (pc' := 6) (v := (31 : Int32)) dc_jdk_52_method_15_code_4 (by decide) rfl ?_
  refine Wlk.iushr (pc' := 7) dc_jdk_52_method_15_code_6 rfl ?_
  refine Wlk.i2b (pc' := 8) dc_jdk_52_method_15_code_7 rfl ?_
  refine Wlk.ireturnN (t := .byte) dc_jdk_52_method_15_code_8 rfl (by simp) (by decide) (by decide) ?_
  exact ⟨by rw [Int32.sub_self]; rfl, rfl⟩

set_option maxRecDepth 65536 in
set_option maxHeartbeats 40000000 in
theorem st_ini4 {l : Launch} {Z : State} {a0 : Array Value} (hw : ∀ d ∈ tables_1, d.before a0 Z = true) (s a : Addr) (u1 u2 : Value) (ka : ClassId) (cs : List Int32) (d : Value) (h0 : Heap) (E1 : Exa Z h0 s "java/lang/String") (F1 : Fld Z h0 s "java/lang/String" "value" "[B" u1) (F2 : Fld Z h0 s "java/lang/String" "coder" "B" u2) (gs : Z.heap.size ≤ s) (A1 : Arv Z h0 a ka .char (Int32.ofNat cs.length) (vC cs) d) (hn : cs.length ≤ 3) (hp : 0 < cs.length) (hL : ∀ c ∈ cs, ¬ (255 : Int32) < c) (zc : Int32) (O2 : Sta Z Z.heap "java/lang/String" "COMPACT_STRINGS" "Z" (.int zc)) (P3 : ¬ zc = 0) :
    Met l Z (⟨"java/lang/String", "<init>", "([CIILjava/lang/Void;)V"⟩ : MethodName) jdk_42_method_149_code 6 none false [] ({ frames := 2, cells := 1, slots := 3, locals := 35 } : Room) #[(.ref s), (.ref a), (.int (0 : Int32)), (.int (Int32.ofNat cs.length)), .null] h0 (false, [], []) (fun v h J => v = none ∧ Keep h0 h [s] ∧ ∃ t, h0.size ≤ t ∧ Z.heap.size ≤ t ∧ StrL Z h s t cs) := by
  refine Met.of_goes (Ls := #[.val (.ref s), .val (.ref a), .val (.int (0 : Int32)), .val (.int (Int32.ofNat cs.length)), .val .null, .unset]) (by first | exact plainFor_of_name (by first | (simp [plainName, overriddenIn]; done) | decide +kernel) | decide +kernel) (fun m => by first | (simp [entryFrame, mkF, argsToLocals, Value.category]; done) | rfl) rfl (fun G hGl => ?_)
  subst hGl
  refine Wlk.aloadN (pc' := 1) (v := (.ref s)) dc_jdk_42_method_149_code_0 rfl rfl rfl ?_
  refine Wlk.initO (pc' := 4) (W := 0) dc_jdk_42_method_149_code_1 (hw _ (List.mem_of_getElem? (i := 15) rfl)) (hw _ (List.mem_of_getElem? (i := 16) rfl)) (hw _ (List.mem_of_getElem? (i := 17) rfl)) (by decide) rfl (by decide) rfl ?_
  refine Wlk.iloadN (pc' := 5) (v := (Int32.ofNat cs.length)) dc_jdk_42_method_149_code_4 rfl rfl ?_
  refine Wlk.ifT (pc' := 27) dc_jdk_42_method_149_code_5 (by decide) (by decide) (show ¬ ((Int32.ofNat cs.length) = (0 : Int32)) from (fun q => absurd ((i32_eq (j := 0) (by omega) (by omega)).mp q) (by omega))) ?_
  refine Wlk.getS (pc' := 30) (v := (.int zc)) dc_jdk_42_method_149_code_27 (hw _ (List.mem_of_getElem? (i := 62) rfl)) Via.refl O2 rfl ?_
  refine Wlk.ifF (pc' := 33) dc_jdk_42_method_149_code_30 (show ¬ (zc = (0 : Int32)) from P3) rfl ?_
  refine Wlk.aloadN (pc' := 34) (v := (.ref a)) dc_jdk_42_method_149_code_33 rfl rfl rfl ?_
  refine Wlk.iloadN (pc' := 35) (v := (0 : Int32)) dc_jdk_42_method_149_code_34 rfl rfl ?_
  refine Wlk.iloadN (pc' := 36) (v := (Int32.ofNat cs.length)) dc_jdk_42_method_149_code_35 rfl rfl ?_
  refine Wlk.callS (pc' := 39) (z := (⟨"java/lang/StringUTF16", "compress", "([CII)[B"⟩ : MethodName)) (argsL := [(.ref a), (.int (0 : Int32)), (.int (Int32.ofNat cs.length))]) (st := []) (W := 0) dc_jdk_42_method_149_code_36 (hw _ (List.mem_of_getElem? (i := 63) rfl)) (hw _ (List.mem_of_getElem? (i := 64) rfl)) (hw _ (List.mem_of_getElem? (i := 65) rfl)) (hw _ (List.mem_of_getElem? (i := 66) rfl)) (by decide) pd_1 rfl (st_cmp3 hw a ka cs d h0 A1 hn hL) (by decide) rfl (by decide) (by decide) (by decide) rfl rfl (fun v19 h20 J21 q22 => ?_)
  obtain ⟨t23, kb24, rfl, le25, g26, K27, B28⟩ := q22
  show Wlk _ _ _ _ _ _ _ _ _ h20 1 3 39 #[.val (.ref s), .val (.ref a), .val (.int (0 : Int32)), .val (.int (Int32.ofNat cs.length)), .val .null, .unset] [(.ref t23)]
  refine Wlk.astore (pc' := 41) (Ls' := #[.val (.ref s), .val (.ref a), .val (.int (0 : Int32)), .val (.int (Int32.ofNat cs.length)), .val .null, .val (.ref t23)]) dc_jdk_42_method_149_code_39 rfl rfl rfl rfl ?_
  refine Wlk.aloadN (pc' := 42) (v := (.ref s)) dc_jdk_42_method_149_code_41 rfl rfl rfl ?_
  refine Wlk.aload (pc' := 44) (v := (.ref t23)) dc_jdk_42_method_149_code_42 rfl rfl rfl ?_
  refine Wlk.iloadN (pc' := 45) (v := (Int32.ofNat cs.length)) dc_jdk_42_method_149_code_44 rfl rfl ?_
  refine Wlk.callS (pc' := 48) (z := (⟨"java/lang/StringUTF16", "coderFromArrayLen", "([BI)B"⟩ : MethodName)) (argsL := [(.ref t23), (.int (Int32.ofNat cs.length))]) (st := [(.ref s)]) (W := 1) dc_jdk_42_method_149_code_45 (hw _ (List.mem_of_getElem? (i := 70) rfl)) (hw _ (List.mem_of_getElem? (i := 71) rfl)) (hw _ (List.mem_of_getElem? (i := 65) rfl)) (hw _ (List.mem_of_getElem? (i := 72) rfl)) (by decide) pd_2 rfl (st_cod hw t23 kb24 (Int32.ofNat cs.length) _ _ h20 B28) (by decide) rfl (by decide) (by decide) (by decide) rfl rfl (fun v29 h30 J31 q32 => ?_)
  obtain ⟨rfl, rfl⟩ := q32
  show Wlk _ _ _ _ _ _ _ _ _ h20 1 3 48 #[.val (.ref s), .val (.ref a), .val (.int (0 : Int32)), .val (.int (Int32.ofNat cs.length)), .val .null, .val (.ref t23)] [(.int (0 : Int32)), (.ref s)]
  have c33 := (F2.keep K27 nin0)
  have c34 := (E1.keep K27)
  refine Wlk.putF (pc' := 51) (ty := .byte) dc_jdk_42_method_149_code_48 (hw _ (List.mem_of_getElem? (i := 25) rfl)) Via.refl c33 c34 (Or.inr ⟨(hw _ (List.mem_of_getElem? (i := 21) rfl)), rfl, rfl⟩) (hw _ (List.mem_of_getElem? (i := 5) rfl)) (by decide) rfl rfl gs rfl (fun h36 W35 => ?_)
  have F37 := c33.same W35
  refine Wlk.aloadN (pc' := 52) (v := (.ref s)) dc_jdk_42_method_149_code_51 rfl rfl rfl ?_
  refine Wlk.aload (pc' := 54) (v := (.ref t23)) dc_jdk_42_method_149_code_52 rfl rfl rfl ?_
  have c38 := ((F1.keep K27 nin0).other W35 (Or.inr (slot_ne (Or.inr (hw _ (List.mem_of_getElem? (i := 20) rfl))) (Or.inr (hw _ (List.mem_of_getElem? (i := 21) rfl))) (by decide) (t := (.array .byte)) (t' := .byte) (by decide) (by decide))))
  have c39 := (c34.wr W35)
  refine Wlk.putF (pc' := 57) (ty := (.array .byte)) dc_jdk_42_method_149_code_54 (hw _ (List.mem_of_getElem? (i := 24) rfl)) Via.refl c38 c39 (Or.inr ⟨(hw _ (List.mem_of_getElem? (i := 20) rfl)), rfl, rfl⟩) (hw _ (List.mem_of_getElem? (i := 5) rfl)) (by decide) rfl rfl gs rfl (fun h41 W40 => ?_)
  have F42 := c38.same W40
  refine Wlk.return_ dc_jdk_42_method_149_code_57 rfl (by decide) (by decide) ?_
  have c43 := ((B28.other W35 (Ne.symm (Nat.ne_of_lt (Nat.lt_of_lt_of_le E1.lt (Nat.le_trans (Nat.le_refl _) le25))))).other W40 (Ne.symm (Nat.ne_of_lt (Nat.lt_of_lt_of_le E1.lt (Nat.le_trans (Nat.le_refl _) le25)))))
  have c44 := (c39.wr W40)
  have c45 := (F37.other W40 (Or.inr (slot_ne (Or.inr (hw _ (List.mem_of_getElem? (i := 21) rfl))) (Or.inr (hw _ (List.mem_of_getElem? (i := 20) rfl))) (by decide) (t := .byte) (t' := (.array .byte)) (by decide) (by decide))))
  exact ⟨rfl, ((((Keep.refl h0 [s]).trans K27 all0).wr W35 (Or.inl (List.mem_of_getElem? (i := 0) rfl))).wr W40 (Or.inl (List.mem_of_getElem? (i := 0) rfl))), t23, (Nat.le_trans (Nat.le_refl _) le25), g26, c44, F42, c45, kb24, c43⟩

set_option maxRecDepth 65536 in
set_option maxHeartbeats 40000000 in
theorem st_ini1 {l : Launch} {Z : State} {a0 : Array Value} (hw : ∀ d ∈ tables_1, d.before a0 Z = true) (s a : Addr) (u1 u2 : Value) (ka : ClassId) (cs : List Int32) (d : Value) (h0 : Heap) (E1 : Exa Z h0 s "java/lang/String") (F1 : Fld Z h0 s "java/lang/String" "value" "[B" u1) (F2 : Fld Z h0 s "java/lang/String" "coder" "B" u2) (gs : Z.heap.size ≤ s) (A1 : Arv Z h0 a ka .char (Int32.ofNat cs.length) (vC cs) d) (hn : cs.length ≤ 3) (hp : 0 < cs.length) (hL : ∀ c ∈ cs, ¬ (255 : Int32) < c) (zc : Int32) (O2 : Sta Z Z.heap "java/lang/String" "COMPACT_STRINGS" "Z" (.int zc)) (P3 : ¬ zc = 0) :
    Met l Z (⟨"java/lang/String", "<init>", "([C)V"⟩ : MethodName) jdk_42_method_3_code 2 none false [] ({ frames := 3, cells := 1, slots := 3, locals := 52 } : Room) #[(.ref s), (.ref a)] h0 (false, [], []) (fun v h J => v = none ∧ Keep h0 h [s] ∧ ∃ t, h0.size ≤ t ∧ Z.heap.size ≤ t ∧ StrL Z h s t cs) := by
  refine Met.of_goes (Ls := #[.val (.ref s), .val (.ref a)]) (by first | exact plainFor_of_name (by first | (simp [plainName, overriddenIn]; done) | decide +kernel) | decide +kernel) (fun m => by first | (simp [entryFrame, mkF, argsToLocals, Value.category]; done) | rfl) rfl (fun G hGl => ?_)
  subst hGl
  refine Wlk.aloadN (pc' := 1) (v := (.ref s)) dc_jdk_42_method_3_code_0 rfl rfl rfl ?_
  refine Wlk.aloadN (pc' := 2) (v := (.ref a)) dc_jdk_42_method_3_code_1 rfl rfl rfl ?_
  refine Wlk.iconst (pc' := 3) (v := (0 : Int32)) dc_jdk_42_method_3_code_2 rfl rfl ?_
  refine Wlk.aloadN (pc' := 4) (v := (.ref a)) dc_jdk_42_method_3_code_3 rfl rfl rfl ?_
  refine Wlk.arraylength (pc' := 5) dc_jdk_42_method_3_code_4 A1 rfl ?_
  refine Wlk.aconstNull (pc' := 6) dc_jdk_42_method_3_code_5 rfl ?_
  refine Wlk.callC (pc' := 9) (a := s) (z := (⟨"java/lang/String", "<init>", "([CIILjava/lang/Void;)V"⟩ : MethodName)) (argsL := [(.ref a), (.int (0 : Int32)), (.int (Int32.ofNat cs.length)), .null]) (st := []) (W := 0) dc_jdk_42_method_3_code_6 (hw _ (List.mem_of_getElem? (i := 11) rfl)) (hw _ (List.mem_of_getElem? (i := 12) rfl)) (hw _ (List.mem_of_getElem? (i := 6) rfl)) (hw _ (List.mem_of_getElem? (i := 14) rfl)) (by decide) rfl pd_3 rfl (st_ini4 hw s a u1 u2 ka cs d h0 E1 F1 F2 gs A1 hn hp hL zc O2 P3) (by decide) rfl (by decide) (by decide) (by decide) rfl rfl (fun v46 h47 J48 q49 => ?_)
  obtain ⟨rfl, K50, t51, le52, g53, S54⟩ := q49
  show Wlk _ _ _ _ _ _ _ _ _ h47 1 3 9 #[.val (.ref s), .val (.ref a)] []
  refine Wlk.return_ dc_jdk_42_method_3_code_9 rfl (by decide) (by decide) ?_
  exact ⟨rfl, K50, t51, le52, g53, S54⟩

set_option maxRecDepth 65536 in
set_option maxHeartbeats 40000000 in
theorem st_emp4c {l : Launch} {Z : State} {a0 : Array Value} (hw : ∀ d ∈ tables_1, d.before a0 Z = true) (s : Addr) (a : Addr) (u2 : Value) (ka : ClassId) (vs : List Value) (d : Value) (Ts : List String) (Lt : List (String × Nat × Addr)) (h0 : Heap) (q0_E : Exa Z h0 s "java/lang/String") (q1_F : Fld Z h0 s "java/lang/String" "value" "[B" .null) (q2_F : Fld Z h0 s "java/lang/String" "coder" "B" u2) (q3_G : Z.heap.size ≤ s) (q4_A : Arv Z h0 a ka .char (0 : Int32) vs d) (wS : ∀ a ∈ Bundle.stringAtoms, a.before a0 Z = true) (hcw : Jvm.Lit.compactW.before a0 Z = true) (hh_7 : Jvm.Lit.constHeld Z "java/lang/String" 7) (hnT : "" ∉ Ts) :
    Met l Z (⟨"java/lang/String", "<init>", "([CIILjava/lang/Void;)V"⟩ : MethodName) jdk_42_method_149_code 6 none true [] ({ frames := 1, cells := 2, slots := 4, locals := 12 } : Room) #[(.ref s), (.ref a), (.int (0 : Int32)), (.int (0 : Int32)), .null] h0 (true, Ts, Lt) (fun v h J' => ∃ (c : Addr) (cb : Addr) (kb : ClassId), v = none ∧ Keep h0 h [s] ∧ Exa Z h c "java/lang/String" ∧ Fld Z h c "java/lang/String" "value" "[B" (.ref cb) ∧ Fld Z h c "java/lang/String" "coder" "B" (.int (0 : Int32)) ∧ Arv Z h cb kb .byte (0 : Int32) [] (.int 0) ∧ Exa Z h s "java/lang/String" ∧ Fld Z h s "java/lang/String" "value" "[B" (.ref cb) ∧ Fld Z h s "java/lang/String" "coder" "B" (.int (0 : Int32)) ∧ J' = (true, "" :: Ts, ("java/lang/String", 7, c) :: Lt)) := by
  refine Met.of_goes (Ls := #[.val (.ref s), .val (.ref a), .val (.int (0 : Int32)), .val (.int (0 : Int32)), .val .null, .unset]) (by first | exact plainFor_of_name (by first | (simp [plainName, overriddenIn]; done) | decide +kernel) | decide +kernel) (fun m => by first | (simp [entryFrame, mkF, argsToLocals, Value.category]; done) | rfl) rfl (fun G hGl => ?_)
  subst hGl
  refine Wlk.aloadN (pc' := 1) (v := (.ref s)) dc_jdk_42_method_149_code_0 rfl rfl rfl ?_
  refine Wlk.initO (pc' := 4) (W := 0) dc_jdk_42_method_149_code_1 (hw _ (List.mem_of_getElem? (i := 15) rfl)) (hw _ (List.mem_of_getElem? (i := 16) rfl)) (hw _ (List.mem_of_getElem? (i := 17) rfl)) (by decide) rfl (by decide) rfl ?_
  refine Wlk.iloadN (pc' := 5) (v := (0 : Int32)) dc_jdk_42_method_149_code_4 rfl rfl ?_
  refine Wlk.ifF (pc' := 8) dc_jdk_42_method_149_code_5 (show (0 : Int32) = (0 : Int32) from by decide) rfl ?_
  refine Wlk.aloadN (pc' := 9) (v := (.ref s)) dc_jdk_42_method_149_code_8 rfl rfl rfl ?_
  refine Wlk.ldcNew (pc' := 11) (text := "") (nn := 0) (vs := []) (z := (0 : Int32)) dc_jdk_42_method_149_code_9 (hw _ (List.mem_of_getElem? (i := 18) rfl)) wS hnT hh_7 hcw ⟨by decide, by decide⟩ (by decide) (by decide) (by decide) (by decide) (by decide) (by decide) rfl (fun ca55 cb56 kb57 h58 E59 A60 A61 A62 A63 => ?_)
  have c65 := (q1_F.ext E59)
  have ne64 : ca55 ≠ s := Fld.ne A62 c65 nofun
  refine Wlk.getF (pc' := 14) (v := (.ref cb56)) dc_jdk_42_method_149_code_11 (hw _ (List.mem_of_getElem? (i := 24) rfl)) Via.refl A62 rfl ?_
  have c66 := (q0_E.ext E59)
  refine Wlk.putF (pc' := 17) (ty := (.array .byte)) dc_jdk_42_method_149_code_14 (hw _ (List.mem_of_getElem? (i := 24) rfl)) Via.refl c65 c66 (Or.inr ⟨(hw _ (List.mem_of_getElem? (i := 20) rfl)), rfl, rfl⟩) (hw _ (List.mem_of_getElem? (i := 5) rfl)) (by decide) rfl rfl q3_G rfl (fun h68 W67 => ?_)
  have F69 := c65.same W67
  refine Wlk.aloadN (pc' := 18) (v := (.ref s)) dc_jdk_42_method_149_code_17 rfl rfl rfl ?_
  refine Wlk.ldcOld (pc' := 20) (text := "") (a := ca55) dc_jdk_42_method_149_code_18 (hw _ (List.mem_of_getElem? (i := 18) rfl)) (by simp) rfl ?_
  have c70 := (A61.other W67 (Or.inl ne64))
  refine Wlk.getF (pc' := 23) (v := (.int (0 : Int32))) dc_jdk_42_method_149_code_20 (hw _ (List.mem_of_getElem? (i := 25) rfl)) Via.refl c70 rfl ?_
  have c71 := ((q2_F.ext E59).other W67 (Or.inr (slot_ne (Or.inr (hw _ (List.mem_of_getElem? (i := 21) rfl))) (Or.inr (hw _ (List.mem_of_getElem? (i := 20) rfl))) (by decide) (t := .byte) (t' := (.array .byte)) (by decide) (by decide))))
  have c72 := (c66.wr W67)
  refine Wlk.putF (pc' := 26) (ty := .byte) dc_jdk_42_method_149_code_23 (hw _ (List.mem_of_getElem? (i := 25) rfl)) Via.refl c71 c72 (Or.inr ⟨(hw _ (List.mem_of_getElem? (i := 21) rfl)), rfl, rfl⟩) (hw _ (List.mem_of_getElem? (i := 5) rfl)) (by decide) rfl rfl q3_G rfl (fun h74 W73 => ?_)
  have F75 := c71.same W73
  refine Wlk.return_ dc_jdk_42_method_149_code_26 rfl (by decide) (by decide) ?_
  have c76 := ((A60.wr W67).wr W73)
  have c77 := ((A62.other W67 (Or.inl ne64)).other W73 (Or.inl ne64))
  have c78 := (c70.other W73 (Or.inl ne64))
  have c79 := ((A63.other W67 (Ne.symm (Exa.neArv (q0_E.ext E59) A63 (hw _ (List.mem_of_getElem? (i := 5) rfl))))).other W73 (Ne.symm (Exa.neArv (q0_E.ext E59) A63 (hw _ (List.mem_of_getElem? (i := 5) rfl)))))
  have c80 := (c72.wr W73)
  have c81 := (F69.other W73 (Or.inr (slot_ne (Or.inr (hw _ (List.mem_of_getElem? (i := 20) rfl))) (Or.inr (hw _ (List.mem_of_getElem? (i := 21) rfl))) (by decide) (t := (.array .byte)) (t' := .byte) (by decide) (by decide))))
  exact ⟨ca55, cb56, kb57, rfl, ((((Keep.refl h0 [s]).ext E59).wr W67 (Or.inl (List.mem_of_getElem? (i := 0) rfl))).wr W73 (Or.inl (List.mem_of_getElem? (i := 0) rfl))), c76, c77, c78, c79, c80, c81, F75, rfl⟩

set_option maxRecDepth 65536 in
set_option maxHeartbeats 40000000 in
theorem st_emp1c {l : Launch} {Z : State} {a0 : Array Value} (hw : ∀ d ∈ tables_1, d.before a0 Z = true) (s : Addr) (a : Addr) (u2 : Value) (ka : ClassId) (vs : List Value) (d : Value) (Ts : List String) (Lt : List (String × Nat × Addr)) (h0 : Heap) (q0_E : Exa Z h0 s "java/lang/String") (q1_F : Fld Z h0 s "java/lang/String" "value" "[B" .null) (q2_F : Fld Z h0 s "java/lang/String" "coder" "B" u2) (q3_G : Z.heap.size ≤ s) (q4_A : Arv Z h0 a ka .char (0 : Int32) vs d) (wS : ∀ a ∈ Bundle.stringAtoms, a.before a0 Z = true) (hcw : Jvm.Lit.compactW.before a0 Z = true) (hh_7 : Jvm.Lit.constHeld Z "java/lang/String" 7) (hnT : "" ∉ Ts) :
    Met l Z (⟨"java/lang/String", "<init>", "([C)V"⟩ : MethodName) jdk_42_method_3_code 2 none true [] ({ frames := 2, cells := 2, slots := 4, locals := 29 } : Room) #[(.ref s), (.ref a)] h0 (true, Ts, Lt) (fun v h J' => ∃ (c : Addr) (cb : Addr) (kb : ClassId), v = none ∧ Keep h0 h [s] ∧ Exa Z h c "java/lang/String" ∧ Fld Z h c "java/lang/String" "value" "[B" (.ref cb) ∧ Fld Z h c "java/lang/String" "coder" "B" (.int (0 : Int32)) ∧ Arv Z h cb kb .byte (0 : Int32) [] (.int 0) ∧ Exa Z h s "java/lang/String" ∧ Fld Z h s "java/lang/String" "value" "[B" (.ref cb) ∧ Fld Z h s "java/lang/String" "coder" "B" (.int (0 : Int32)) ∧ J' = (true, "" :: Ts, ("java/lang/String", 7, c) :: Lt)) := by
  refine Met.of_goes (Ls := #[.val (.ref s), .val (.ref a)]) (by first | exact plainFor_of_name (by first | (simp [plainName, overriddenIn]; done) | decide +kernel) | decide +kernel) (fun m => by first | (simp [entryFrame, mkF, argsToLocals, Value.category]; done) | rfl) rfl (fun G hGl => ?_)
  subst hGl
  refine Wlk.aloadN (pc' := 1) (v := (.ref s)) dc_jdk_42_method_3_code_0 rfl rfl rfl ?_
  refine Wlk.aloadN (pc' := 2) (v := (.ref a)) dc_jdk_42_method_3_code_1 rfl rfl rfl ?_
  refine Wlk.iconst (pc' := 3) (v := (0 : Int32)) dc_jdk_42_method_3_code_2 rfl rfl ?_
  refine Wlk.aloadN (pc' := 4) (v := (.ref a)) dc_jdk_42_method_3_code_3 rfl rfl rfl ?_
  refine Wlk.arraylength (pc' := 5) dc_jdk_42_method_3_code_4 q4_A rfl ?_
  refine Wlk.aconstNull (pc' := 6) dc_jdk_42_method_3_code_5 rfl ?_
  refine Wlk.callCw (pc' := 9) (a := s) (z := (⟨"java/lang/String", "<init>", "([CIILjava/lang/Void;)V"⟩ : MethodName)) (argsL := [(.ref a), (.int (0 : Int32)), (.int (0 : Int32)), .null]) (st := []) (W := 0) dc_jdk_42_method_3_code_6 (hw _ (List.mem_of_getElem? (i := 11) rfl)) (hw _ (List.mem_of_getElem? (i := 12) rfl)) (hw _ (List.mem_of_getElem? (i := 6) rfl)) (hw _ (List.mem_of_getElem? (i := 14) rfl)) (by decide) rfl pd_3 rfl (st_emp4c hw s a u2 ka vs d Ts Lt h0 q0_E q1_F q2_F q3_G q4_A wS hcw hh_7 (by first | exact hnT | decide)) (by decide) rfl (by decide) (by decide) (by decide) rfl rfl (fun v82 h83 J84 q85 => ?_)
  obtain ⟨c86, cb87, kb88, rfl, K89, n90, n91, n92, n93, n94, n95, n96, rfl⟩ := q85
  show Wlk _ _ _ _ _ _ _ _ _ h83 2 4 9 #[.val (.ref s), .val (.ref a)] []
  refine Wlk.return_ dc_jdk_42_method_3_code_9 rfl (by decide) (by decide) ?_
  exact ⟨c86, cb87, kb88, rfl, ((Keep.refl h0 [s]).trans K89 (allS (Or.inl (List.mem_of_getElem? (i := 0) rfl)) all0)), n90, n91, n92, n93, n94, n95, n96, rfl⟩

set_option maxRecDepth 65536 in
set_option maxHeartbeats 40000000 in
theorem st_emp4w {l : Launch} {Z : State} {a0 : Array Value} (hw : ∀ d ∈ tables_1, d.before a0 Z = true) (s : Addr) (a : Addr) (u2 : Value) (ka : ClassId) (vs : List Value) (d : Value) (c : Addr) (cb : Addr) (kb : ClassId) (Ts : List String) (Lt : List (String × Nat × Addr)) (h0 : Heap) (q0_E : Exa Z h0 s "java/lang/String") (q1_F : Fld Z h0 s "java/lang/String" "value" "[B" .null) (q2_F : Fld Z h0 s "java/lang/String" "coder" "B" u2) (q3_G : Z.heap.size ≤ s) (q4_A : Arv Z h0 a ka .char (0 : Int32) vs d) (q5_E : Exa Z h0 c "java/lang/String") (q6_F : Fld Z h0 c "java/lang/String" "value" "[B" (.ref cb)) (q7_F : Fld Z h0 c "java/lang/String" "coder" "B" (.int (0 : Int32))) (q8_A : Arv Z h0 cb kb .byte (0 : Int32) [] (.int 0)) (q9_NE : c ≠ s) (q10_NE : cb ≠ s) (hin : ("java/lang/String", 7, c) ∈ Lt) :
    Met l Z (⟨"java/lang/String", "<init>", "([CIILjava/lang/Void;)V"⟩ : MethodName) jdk_42_method_149_code 6 none true [] ({ frames := 1, cells := 0, slots := 0, locals := 12 } : Room) #[(.ref s), (.ref a), (.int (0 : Int32)), (.int (0 : Int32)), .null] h0 (true, Ts, Lt) (fun v h J' => v = none ∧ Keep h0 h [s] ∧ Exa Z h c "java/lang/String" ∧ Fld Z h c "java/lang/String" "value" "[B" (.ref cb) ∧ Fld Z h c "java/lang/String" "coder" "B" (.int (0 : Int32)) ∧ Arv Z h cb kb .byte (0 : Int32) [] (.int 0) ∧ Exa Z h s "java/lang/String" ∧ Fld Z h s "java/lang/String" "value" "[B" (.ref cb) ∧ Fld Z h s "java/lang/String" "coder" "B" (.int (0 : Int32)) ∧ J' = (true, Ts, Lt)) := by
  refine Met.of_goes (Ls := #[.val (.ref s), .val (.ref a), .val (.int (0 : Int32)), .val (.int (0 : Int32)), .val .null, .unset]) (by first | exact plainFor_of_name (by first | (simp [plainName, overriddenIn]; done) | decide +kernel) | decide +kernel) (fun m => by first | (simp [entryFrame, mkF, argsToLocals, Value.category]; done) | rfl) rfl (fun G hGl => ?_)
  subst hGl
  refine Wlk.aloadN (pc' := 1) (v := (.ref s)) dc_jdk_42_method_149_code_0 rfl rfl rfl ?_
  refine Wlk.initO (pc' := 4) (W := 0) dc_jdk_42_method_149_code_1 (hw _ (List.mem_of_getElem? (i := 15) rfl)) (hw _ (List.mem_of_getElem? (i := 16) rfl)) (hw _ (List.mem_of_getElem? (i := 17) rfl)) (by decide) rfl (by decide) rfl ?_
  refine Wlk.iloadN (pc' := 5) (v := (0 : Int32)) dc_jdk_42_method_149_code_4 rfl rfl ?_
  refine Wlk.ifF (pc' := 8) dc_jdk_42_method_149_code_5 (show (0 : Int32) = (0 : Int32) from by decide) rfl ?_
  refine Wlk.aloadN (pc' := 9) (v := (.ref s)) dc_jdk_42_method_149_code_8 rfl rfl rfl ?_
  refine Wlk.ldcOld (pc' := 11) (text := "") (a := c) dc_jdk_42_method_149_code_9 (hw _ (List.mem_of_getElem? (i := 18) rfl)) hin rfl ?_
  refine Wlk.getF (pc' := 14) (v := (.ref cb)) dc_jdk_42_method_149_code_11 (hw _ (List.mem_of_getElem? (i := 24) rfl)) Via.refl q6_F rfl ?_
  refine Wlk.putF (pc' := 17) (ty := (.array .byte)) dc_jdk_42_method_149_code_14 (hw _ (List.mem_of_getElem? (i := 24) rfl)) Via.refl q1_F q0_E (Or.inr ⟨(hw _ (List.mem_of_getElem? (i := 20) rfl)), rfl, rfl⟩) (hw _ (List.mem_of_getElem? (i := 5) rfl)) (by decide) rfl rfl q3_G rfl (fun h98 W97 => ?_)
  have F99 := q1_F.same W97
  refine Wlk.aloadN (pc' := 18) (v := (.ref s)) dc_jdk_42_method_149_code_17 rfl rfl rfl ?_
  refine Wlk.ldcOld (pc' := 20) (text := "") (a := c) dc_jdk_42_method_149_code_18 (hw _ (List.mem_of_getElem? (i := 18) rfl)) hin rfl ?_
  have c100 := (q7_F.other W97 (Or.inl q9_NE))
  refine Wlk.getF (pc' := 23) (v := (.int (0 : Int32))) dc_jdk_42_method_149_code_20 (hw _ (List.mem_of_getElem? (i := 25) rfl)) Via.refl c100 rfl ?_
  have c101 := (q2_F.other W97 (Or.inr (slot_ne (Or.inr (hw _ (List.mem_of_getElem? (i := 21) rfl))) (Or.inr (hw _ (List.mem_of_getElem? (i := 20) rfl))) (by decide) (t := .byte) (t' := (.array .byte)) (by decide) (by decide))))
  have c102 := (q0_E.wr W97)
  refine Wlk.putF (pc' := 26) (ty := .byte) dc_jdk_42_method_149_code_23 (hw _ (List.mem_of_getElem? (i := 25) rfl)) Via.refl c101 c102 (Or.inr ⟨(hw _ (List.mem_of_getElem? (i := 21) rfl)), rfl, rfl⟩) (hw _ (List.mem_of_getElem? (i := 5) rfl)) (by decide) rfl rfl q3_G rfl (fun h104 W103 => ?_)
  have F105 := c101.same W103
  refine Wlk.return_ dc_jdk_42_method_149_code_26 rfl (by decide) (by decide) ?_
  have c106 := ((q5_E.wr W97).wr W103)
  have c107 := ((q6_F.other W97 (Or.inl q9_NE)).other W103 (Or.inl q9_NE))
  have c108 := (c100.other W103 (Or.inl q9_NE))
  have c109 := ((q8_A.other W97 q10_NE).other W103 q10_NE)
  have c110 := (c102.wr W103)
  have c111 := (F99.other W103 (Or.inr (slot_ne (Or.inr (hw _ (List.mem_of_getElem? (i := 20) rfl))) (Or.inr (hw _ (List.mem_of_getElem? (i := 21) rfl))) (by decide) (t := (.array .byte)) (t' := .byte) (by decide) (by decide))))
  exact ⟨rfl, (((Keep.refl h0 [s]).wr W97 (Or.inl (List.mem_of_getElem? (i := 0) rfl))).wr W103 (Or.inl (List.mem_of_getElem? (i := 0) rfl))), c106, c107, c108, c109, c110, c111, F105, rfl⟩

set_option maxRecDepth 65536 in
set_option maxHeartbeats 40000000 in
theorem st_emp1w {l : Launch} {Z : State} {a0 : Array Value} (hw : ∀ d ∈ tables_1, d.before a0 Z = true) (s : Addr) (a : Addr) (u2 : Value) (ka : ClassId) (vs : List Value) (d : Value) (c : Addr) (cb : Addr) (kb : ClassId) (Ts : List String) (Lt : List (String × Nat × Addr)) (h0 : Heap) (q0_E : Exa Z h0 s "java/lang/String") (q1_F : Fld Z h0 s "java/lang/String" "value" "[B" .null) (q2_F : Fld Z h0 s "java/lang/String" "coder" "B" u2) (q3_G : Z.heap.size ≤ s) (q4_A : Arv Z h0 a ka .char (0 : Int32) vs d) (q5_E : Exa Z h0 c "java/lang/String") (q6_F : Fld Z h0 c "java/lang/String" "value" "[B" (.ref cb)) (q7_F : Fld Z h0 c "java/lang/String" "coder" "B" (.int (0 : Int32))) (q8_A : Arv Z h0 cb kb .byte (0 : Int32) [] (.int 0)) (q9_NE : c ≠ s) (q10_NE : cb ≠ s) (hin : ("java/lang/String", 7, c) ∈ Lt) :
    Met l Z (⟨"java/lang/String", "<init>", "([C)V"⟩ : MethodName) jdk_42_method_3_code 2 none true [] ({ frames := 2, cells := 0, slots := 0, locals := 29 } : Room) #[(.ref s), (.ref a)] h0 (true, Ts, Lt) (fun v h J' => v = none ∧ Keep h0 h [s] ∧ Exa Z h c "java/lang/String" ∧ Fld Z h c "java/lang/String" "value" "[B" (.ref cb) ∧ Fld Z h c "java/lang/String" "coder" "B" (.int (0 : Int32)) ∧ Arv Z h cb kb .byte (0 : Int32) [] (.int 0) ∧ Exa Z h s "java/lang/String" ∧ Fld Z h s "java/lang/String" "value" "[B" (.ref cb) ∧ Fld Z h s "java/lang/String" "coder" "B" (.int (0 : Int32)) ∧ J' = (true, Ts, Lt)) := by
  refine Met.of_goes (Ls := #[.val (.ref s), .val (.ref a)]) (by first | exact plainFor_of_name (by first | (simp [plainName, overriddenIn]; done) | decide +kernel) | decide +kernel) (fun m => by first | (simp [entryFrame, mkF, argsToLocals, Value.category]; done) | rfl) rfl (fun G hGl => ?_)
  subst hGl
  refine Wlk.aloadN (pc' := 1) (v := (.ref s)) dc_jdk_42_method_3_code_0 rfl rfl rfl ?_
  refine Wlk.aloadN (pc' := 2) (v := (.ref a)) dc_jdk_42_method_3_code_1 rfl rfl rfl ?_
  refine Wlk.iconst (pc' := 3) (v := (0 : Int32)) dc_jdk_42_method_3_code_2 rfl rfl ?_
  refine Wlk.aloadN (pc' := 4) (v := (.ref a)) dc_jdk_42_method_3_code_3 rfl rfl rfl ?_
  refine Wlk.arraylength (pc' := 5) dc_jdk_42_method_3_code_4 q4_A rfl ?_
  refine Wlk.aconstNull (pc' := 6) dc_jdk_42_method_3_code_5 rfl ?_
  refine Wlk.callCw (pc' := 9) (a := s) (z := (⟨"java/lang/String", "<init>", "([CIILjava/lang/Void;)V"⟩ : MethodName)) (argsL := [(.ref a), (.int (0 : Int32)), (.int (0 : Int32)), .null]) (st := []) (W := 0) dc_jdk_42_method_3_code_6 (hw _ (List.mem_of_getElem? (i := 11) rfl)) (hw _ (List.mem_of_getElem? (i := 12) rfl)) (hw _ (List.mem_of_getElem? (i := 6) rfl)) (hw _ (List.mem_of_getElem? (i := 14) rfl)) (by decide) rfl pd_3 rfl (st_emp4w hw s a u2 ka vs d c cb kb Ts Lt h0 q0_E q1_F q2_F q3_G q4_A q5_E q6_F q7_F q8_A q9_NE q10_NE (by first | exact hin | simp)) (by decide) rfl (by decide) (by decide) (by decide) rfl rfl (fun v112 h113 J114 q115 => ?_)
  obtain ⟨rfl, K116, n117, n118, n119, n120, n121, n122, n123, rfl⟩ := q115
  show Wlk _ _ _ _ _ _ _ _ _ h113 0 0 9 #[.val (.ref s), .val (.ref a)] []
  refine Wlk.return_ dc_jdk_42_method_3_code_9 rfl (by decide) (by decide) ?_
  exact ⟨rfl, ((Keep.refl h0 [s]).trans K116 (allS (Or.inl (List.mem_of_getElem? (i := 0) rfl)) all0)), n117, n118, n119, n120, n121, n122, n123, rfl⟩

set_option maxRecDepth 65536 in
set_option maxHeartbeats 40000000 in
theorem rm_strN {l : Launch} {Z : State} {a0 : Array Value} (hw : ∀ d ∈ tables_1, d.before a0 Z = true) (n : Int32) (p : Int32) (q : Int32) (r : Int32) (zc : Int32) (h0 : Heap) (q0_Sta : Sta Z Z.heap "java/lang/String" "COMPACT_STRINGS" "Z" (.int zc)) (P3 : ¬ zc = 0) (hn : ¬ n = 0) :
    Met l Z (⟨"com/example/strict_crosswalk/strictcrosswalk/description/AspectOtherPinLaw", "str", "(IIII)Ljava/lang/String;"⟩ : MethodName) method_2_code 7 (some (.object "java/lang/String")) false [] ({ frames := 4, cells := 3, slots := 10, locals := 66 } : Room) #[(.int n), (.int p), (.int q), (.int r)] h0 (false, [], []) (fun v h J' => ∃ (s : Addr), v = some (.ref s) ∧ h0.size ≤ s ∧ Z.heap.size ≤ s ∧ Keep h0 h [] ∧ Exa Z h s "java/lang/String") := by
  refine Met.of_goes (Ls := #[.val (.int n), .val (.int p), .val (.int q), .val (.int r), .unset, .unset, .unset]) (by first | exact plainFor_of_name (by first | (simp [plainName, overriddenIn]; done) | decide +kernel) | decide +kernel) (fun m => by first | (simp [entryFrame, mkF, argsToLocals, Value.category]; done) | rfl) rfl (fun G hGl => ?_)
  subst hGl
  have O2 := q0_Sta
  refine Wlk.iloadN (pc' := 1) (v := p) dc_method_2_code_0 rfl rfl ?_
  refine Wlk.sipush (pc' := 4) (v := (255 : Int32)) dc_method_2_code_1 (by decide) rfl ?_
  refine Wlk.iand (pc' := 5) dc_method_2_code_4 rfl ?_
  refine Wlk.i2c (pc' := 6) dc_method_2_code_5 rfl ?_
  refine Wlk.istore (pc' := 8) (Ls' := #[.val (.int n), .val (.int p), .val (.int q), .val (.int r), .val (.int (((p &&& (255 : Int32))).toUInt32.toUInt16.toUInt32.toInt32)), .unset, .unset]) dc_method_2_code_6 rfl rfl rfl ?_
  refine Wlk.iloadN (pc' := 9) (v := q) dc_method_2_code_8 rfl rfl ?_
  refine Wlk.sipush (pc' := 12) (v := (255 : Int32)) dc_method_2_code_9 (by decide) rfl ?_
  refine Wlk.iand (pc' := 13) dc_method_2_code_12 rfl ?_
  refine Wlk.i2c (pc' := 14) dc_method_2_code_13 rfl ?_
  refine Wlk.istore (pc' := 16) (Ls' := #[.val (.int n), .val (.int p), .val (.int q), .val (.int r), .val (.int (((p &&& (255 : Int32))).toUInt32.toUInt16.toUInt32.toInt32)), .val (.int (((q &&& (255 : Int32))).toUInt32.toUInt16.toUInt32.toInt32)), .unset]) dc_method_2_code_14 rfl rfl rfl ?_
  refine Wlk.iloadN (pc' := 17) (v := r) dc_method_2_code_16 rfl rfl ?_
  refine Wlk.sipush (pc' := 20) (v := (255 : Int32)) dc_method_2_code_17 (by decide) rfl ?_
  refine Wlk.iand (pc' := 21) dc_method_2_code_20 rfl ?_
  refine Wlk.i2c (pc' := 22) dc_method_2_code_21 rfl ?_
  refine Wlk.istore (pc' := 24) (Ls' := #[.val (.int n), .val (.int p), .val (.int q), .val (.int r), .val (.int (((p &&& (255 : Int32))).toUInt32.toUInt16.toUInt32.toInt32)), .val (.int (((q &&& (255 : Int32))).toUInt32.toUInt16.toUInt32.toInt32)), .val (.int (((r &&& (255 : Int32))).toUInt32.toUInt16.toUInt32.toInt32))]) dc_method_2_code_22 rfl rfl rfl ?_
  refine Wlk.iloadN (pc' := 25) (v := n) dc_method_2_code_24 rfl rfl ?_
  refine Wlk.ifT (pc' := 39) dc_method_2_code_25 (by decide) (by decide) (show ¬ (n = (0 : Int32)) from hn) ?_
  refine Wlk.iloadN (pc' := 40) (v := n) dc_method_2_code_39 rfl rfl ?_
  refine Wlk.iconst (pc' := 41) (v := (1 : Int32)) dc_method_2_code_40 rfl rfl ?_
  refine Wlk.ic_ (pcT := 60) (pcF := 44) dc_method_2_code_41 (by decide) (by decide) rfl (fun (hc124 : ¬ (n = (1 : Int32))) => ?_) (fun (hc124 : n = (1 : Int32)) => ?_)
  · skip
    refine Wlk.iloadN (pc' := 61) (v := n) dc_method_2_code_60 rfl rfl ?_
    refine Wlk.iconst (pc' := 62) (v := (2 : Int32)) dc_method_2_code_61 rfl rfl ?_
    refine Wlk.ic_ (pcT := 86) (pcF := 65) dc_method_2_code_62 (by decide) (by decide) rfl (fun (hc125 : ¬ (n = (2 : Int32))) => ?_) (fun (hc125 : n = (2 : Int32)) => ?_)
    · skip
      refine Wlk.newO (pc' := 89) (C := "java/lang/String") dc_method_2_code_86 (hw _ (List.mem_of_getElem? (i := 4) rfl)) (hw _ (List.mem_of_getElem? (i := 5) rfl)) (hw _ (List.mem_of_getElem? (i := 6) rfl)) (by decide) (by decide) rfl (fun b126 h127 le128 g129 E130 A131 D132 => ?_)
      have F133 : Fld Z h127 b126 "java/lang/String" "value" "[B" .null := D132 (Or.inr (hw _ (List.mem_of_getElem? (i := 20) rfl))) (ty := (.array .byte)) (by decide)
      have F134 : Fld Z h127 b126 "java/lang/String" "coder" "B" (.int (0 : Int32)) := D132 (Or.inr (hw _ (List.mem_of_getElem? (i := 21) rfl))) (ty := .byte) (by decide)
      refine Wlk.dup (pc' := 90) dc_method_2_code_89 rfl rfl ?_
      refine Wlk.iconst (pc' := 91) (v := (3 : Int32)) dc_method_2_code_90 rfl rfl ?_
      refine Wlk.newP (pc' := 93) (ty := .char) (cap := 3) dc_method_2_code_91 rfl (hw _ (List.mem_of_getElem? (i := 7) rfl)) (by decide) (by decide) (by decide) (by decide) (by decide) rfl (fun b135 h136 kc137 le138 g139 E140 A141 => ?_)
      have A142 : Arv Z h136 b135 kc137 .char (3 : Int32) [.int 0, .int 0, .int 0] (.int 0) := A141.pad (pad_rep [] (.int 0) 3)
      refine Wlk.dup (pc' := 94) dc_method_2_code_93 rfl rfl ?_
      refine Wlk.iconst (pc' := 95) (v := (0 : Int32)) dc_method_2_code_94 rfl rfl ?_
      refine Wlk.iload (pc' := 97) (v := (((p &&& (255 : Int32))).toUInt32.toUInt16.toUInt32.toInt32)) dc_method_2_code_95 rfl rfl ?_
      refine Wlk.castore (pc' := 98) (i := 0) dc_method_2_code_97 A142 ⟨by decide, by decide⟩ rfl (Nat.le_of_ble_eq_true rfl) g139 rfl (fun h143 W144 A145 => ?_)
      have A146 : Arv Z h143 b135 kc137 .char (3 : Int32) [(.int (nar .char (((p &&& (255 : Int32))).toUInt32.toUInt16.toUInt32.toInt32))), (.int (0 : Int32)), (.int (0 : Int32))] (.int 0) := A145
      refine Wlk.dup (pc' := 99) dc_method_2_code_98 rfl rfl ?_
      refine Wlk.iconst (pc' := 100) (v := (1 : Int32)) dc_method_2_code_99 rfl rfl ?_
      refine Wlk.iload (pc' := 102) (v := (((q &&& (255 : Int32))).toUInt32.toUInt16.toUInt32.toInt32)) dc_method_2_code_100 rfl rfl ?_
      refine Wlk.castore (pc' := 103) (i := 1) dc_method_2_code_102 A146 ⟨by decide, by decide⟩ rfl (Nat.le_of_ble_eq_true rfl) g139 rfl (fun h147 W148 A149 => ?_)
      have A150 : Arv Z h147 b135 kc137 .char (3 : Int32) [(.int (nar .char (((p &&& (255 : Int32))).toUInt32.toUInt16.toUInt32.toInt32))), (.int (nar .char (((q &&& (255 : Int32))).toUInt32.toUInt16.toUInt32.toInt32))), (.int (0 : Int32))] (.int 0) := A149
      refine Wlk.dup (pc' := 104) dc_method_2_code_103 rfl rfl ?_
      refine Wlk.iconst (pc' := 105) (v := (2 : Int32)) dc_method_2_code_104 rfl rfl ?_
      refine Wlk.iload (pc' := 107) (v := (((r &&& (255 : Int32))).toUInt32.toUInt16.toUInt32.toInt32)) dc_method_2_code_105 rfl rfl ?_
      refine Wlk.castore (pc' := 108) (i := 2) dc_method_2_code_107 A150 ⟨by decide, by decide⟩ rfl (Nat.le_of_ble_eq_true rfl) g139 rfl (fun h151 W152 A153 => ?_)
      have A154 : Arv Z h151 b135 kc137 .char (3 : Int32) [(.int (nar .char (((p &&& (255 : Int32))).toUInt32.toUInt16.toUInt32.toInt32))), (.int (nar .char (((q &&& (255 : Int32))).toUInt32.toUInt16.toUInt32.toInt32))), (.int (nar .char (((r &&& (255 : Int32))).toUInt32.toUInt16.toUInt32.toInt32)))] (.int 0) := A153
      have c155 := ((((A131.ext E140).wr W144).wr W148).wr W152)
      have c156 := ((((F133.ext E140).other W144 (Or.inl (Nat.ne_of_lt (Nat.lt_of_lt_of_le A131.lt (Nat.le_trans (Nat.le_refl _) le138))))).other W148 (Or.inl (Nat.ne_of_lt (Nat.lt_of_lt_of_le A131.lt (Nat.le_trans (Nat.le_refl _) le138))))).other W152 (Or.inl (Nat.ne_of_lt (Nat.lt_of_lt_of_le A131.lt (Nat.le_trans (Nat.le_refl _) le138)))))
      have c157 := ((((F134.ext E140).other W144 (Or.inl (Nat.ne_of_lt (Nat.lt_of_lt_of_le A131.lt (Nat.le_trans (Nat.le_refl _) le138))))).other W148 (Or.inl (Nat.ne_of_lt (Nat.lt_of_lt_of_le A131.lt (Nat.le_trans (Nat.le_refl _) le138))))).other W152 (Or.inl (Nat.ne_of_lt (Nat.lt_of_lt_of_le A131.lt (Nat.le_trans (Nat.le_refl _) le138)))))
      have hL158 : ∀ c ∈ [(nar .char (((p &&& (255 : Int32))).toUInt32.toUInt16.toUInt32.toInt32)), (nar .char (((q &&& (255 : Int32))).toUInt32.toUInt16.toUInt32.toInt32)), (nar .char (((r &&& (255 : Int32))).toUInt32.toUInt16.toUInt32.toInt32))], ¬ (255 : Int32) < c := by
        intro c hc
        simp only [List.mem_cons, List.not_mem_nil, or_false] at hc
        rcases hc with rfl | rfl | rfl
        · exact own_c255 _
        · exact own_c255 _
        · exact own_c255 _
      refine Wlk.callC (pc' := 111) (a := b126) (z := (⟨"java/lang/String", "<init>", "([C)V"⟩ : MethodName)) (argsL := [(.ref b135)]) (st := [(.ref b126)]) (W := 1) dc_method_2_code_108 (hw _ (List.mem_of_getElem? (i := 8) rfl)) (hw _ (List.mem_of_getElem? (i := 9) rfl)) (hw _ (List.mem_of_getElem? (i := 6) rfl)) (hw _ (List.mem_of_getElem? (i := 10) rfl)) (by decide) rfl pd_4 rfl (st_ini1 hw b126 b135 _ _ kc137 [(nar .char (((p &&& (255 : Int32))).toUInt32.toUInt16.toUInt32.toInt32)), (nar .char (((q &&& (255 : Int32))).toUInt32.toUInt16.toUInt32.toInt32)), (nar .char (((r &&& (255 : Int32))).toUInt32.toUInt16.toUInt32.toInt32))] _ h151 c155 c156 c157 g129 A154 (Nat.le_of_ble_eq_true rfl) (Nat.le_of_ble_eq_true rfl) hL158 zc O2 P3) (by decide) rfl (by decide) (by decide) (by decide) rfl rfl (fun v159 h160 J161 q162 => ?_)
      obtain ⟨rfl, K163, t164, le165, g166, S167⟩ := q162
      show Wlk _ _ _ _ _ _ _ _ _ h160 3 10 111 #[.val (.int n), .val (.int p), .val (.int q), .val (.int r), .val (.int (((p &&& (255 : Int32))).toUInt32.toUInt16.toUInt32.toInt32)), .val (.int (((q &&& (255 : Int32))).toUInt32.toUInt16.toUInt32.toInt32)), .val (.int (((r &&& (255 : Int32))).toUInt32.toUInt16.toUInt32.toInt32))] [(.ref b126)]
      refine Wlk.areturn (t := (.object "java/lang/String")) dc_method_2_code_111 rfl rfl rfl rfl (by decide) (by decide) ?_
      exact ⟨b126, rfl, (Nat.le_trans (Nat.le_refl _) le128), g129, (((((((Keep.refl h0 []).ext E130).ext E140).wr W144 (Or.inr (Nat.le_trans E130.1 le138))).wr W148 (Or.inr (Nat.le_trans E130.1 le138))).wr W152 (Or.inr (Nat.le_trans E130.1 le138))).trans K163 (allS (Or.inr (Nat.le_trans (Nat.le_refl _) le128)) all0)), S167.1⟩
    · skip
      refine Wlk.newO (pc' := 68) (C := "java/lang/String") dc_method_2_code_65 (hw _ (List.mem_of_getElem? (i := 4) rfl)) (hw _ (List.mem_of_getElem? (i := 5) rfl)) (hw _ (List.mem_of_getElem? (i := 6) rfl)) (by decide) (by decide) rfl (fun b168 h169 le170 g171 E172 A173 D174 => ?_)
      have F175 : Fld Z h169 b168 "java/lang/String" "value" "[B" .null := D174 (Or.inr (hw _ (List.mem_of_getElem? (i := 20) rfl))) (ty := (.array .byte)) (by decide)
      have F176 : Fld Z h169 b168 "java/lang/String" "coder" "B" (.int (0 : Int32)) := D174 (Or.inr (hw _ (List.mem_of_getElem? (i := 21) rfl))) (ty := .byte) (by decide)
      refine Wlk.dup (pc' := 69) dc_method_2_code_68 rfl rfl ?_
      refine Wlk.iconst (pc' := 70) (v := (2 : Int32)) dc_method_2_code_69 rfl rfl ?_
      refine Wlk.newP (pc' := 72) (ty := .char) (cap := 2) dc_method_2_code_70 rfl (hw _ (List.mem_of_getElem? (i := 7) rfl)) (by decide) (by decide) (by decide) (by decide) (by decide) rfl (fun b177 h178 kc179 le180 g181 E182 A183 => ?_)
      have A184 : Arv Z h178 b177 kc179 .char (2 : Int32) [.int 0, .int 0] (.int 0) := A183.pad (pad_rep [] (.int 0) 2)
      refine Wlk.dup (pc' := 73) dc_method_2_code_72 rfl rfl ?_
      refine Wlk.iconst (pc' := 74) (v := (0 : Int32)) dc_method_2_code_73 rfl rfl ?_
      refine Wlk.iload (pc' := 76) (v := (((p &&& (255 : Int32))).toUInt32.toUInt16.toUInt32.toInt32)) dc_method_2_code_74 rfl rfl ?_
      refine Wlk.castore (pc' := 77) (i := 0) dc_method_2_code_76 A184 ⟨by decide, by decide⟩ rfl (Nat.le_of_ble_eq_true rfl) g181 rfl (fun h185 W186 A187 => ?_)
      have A188 : Arv Z h185 b177 kc179 .char (2 : Int32) [(.int (nar .char (((p &&& (255 : Int32))).toUInt32.toUInt16.toUInt32.toInt32))), (.int (0 : Int32))] (.int 0) := A187
      refine Wlk.dup (pc' := 78) dc_method_2_code_77 rfl rfl ?_
      refine Wlk.iconst (pc' := 79) (v := (1 : Int32)) dc_method_2_code_78 rfl rfl ?_
      refine Wlk.iload (pc' := 81) (v := (((q &&& (255 : Int32))).toUInt32.toUInt16.toUInt32.toInt32)) dc_method_2_code_79 rfl rfl ?_
      refine Wlk.castore (pc' := 82) (i := 1) dc_method_2_code_81 A188 ⟨by decide, by decide⟩ rfl (Nat.le_of_ble_eq_true rfl) g181 rfl (fun h189 W190 A191 => ?_)
      have A192 : Arv Z h189 b177 kc179 .char (2 : Int32) [(.int (nar .char (((p &&& (255 : Int32))).toUInt32.toUInt16.toUInt32.toInt32))), (.int (nar .char (((q &&& (255 : Int32))).toUInt32.toUInt16.toUInt32.toInt32)))] (.int 0) := A191
      have c193 := (((A173.ext E182).wr W186).wr W190)
      have c194 := (((F175.ext E182).other W186 (Or.inl (Nat.ne_of_lt (Nat.lt_of_lt_of_le A173.lt (Nat.le_trans (Nat.le_refl _) le180))))).other W190 (Or.inl (Nat.ne_of_lt (Nat.lt_of_lt_of_le A173.lt (Nat.le_trans (Nat.le_refl _) le180)))))
      have c195 := (((F176.ext E182).other W186 (Or.inl (Nat.ne_of_lt (Nat.lt_of_lt_of_le A173.lt (Nat.le_trans (Nat.le_refl _) le180))))).other W190 (Or.inl (Nat.ne_of_lt (Nat.lt_of_lt_of_le A173.lt (Nat.le_trans (Nat.le_refl _) le180)))))
      have hL196 : ∀ c ∈ [(nar .char (((p &&& (255 : Int32))).toUInt32.toUInt16.toUInt32.toInt32)), (nar .char (((q &&& (255 : Int32))).toUInt32.toUInt16.toUInt32.toInt32))], ¬ (255 : Int32) < c := by
        intro c hc
        simp only [List.mem_cons, List.not_mem_nil, or_false] at hc
        rcases hc with rfl | rfl
        · exact own_c255 _
        · exact own_c255 _
      refine Wlk.callC (pc' := 85) (a := b168) (z := (⟨"java/lang/String", "<init>", "([C)V"⟩ : MethodName)) (argsL := [(.ref b177)]) (st := [(.ref b168)]) (W := 1) dc_method_2_code_82 (hw _ (List.mem_of_getElem? (i := 8) rfl)) (hw _ (List.mem_of_getElem? (i := 9) rfl)) (hw _ (List.mem_of_getElem? (i := 6) rfl)) (hw _ (List.mem_of_getElem? (i := 10) rfl)) (by decide) rfl pd_4 rfl (st_ini1 hw b168 b177 _ _ kc179 [(nar .char (((p &&& (255 : Int32))).toUInt32.toUInt16.toUInt32.toInt32)), (nar .char (((q &&& (255 : Int32))).toUInt32.toUInt16.toUInt32.toInt32))] _ h189 c193 c194 c195 g171 A192 (Nat.le_of_ble_eq_true rfl) (Nat.le_of_ble_eq_true rfl) hL196 zc O2 P3) (by decide) rfl (by decide) (by decide) (by decide) rfl rfl (fun v197 h198 J199 q200 => ?_)
      obtain ⟨rfl, K201, t202, le203, g204, S205⟩ := q200
      show Wlk _ _ _ _ _ _ _ _ _ h198 3 9 85 #[.val (.int n), .val (.int p), .val (.int q), .val (.int r), .val (.int (((p &&& (255 : Int32))).toUInt32.toUInt16.toUInt32.toInt32)), .val (.int (((q &&& (255 : Int32))).toUInt32.toUInt16.toUInt32.toInt32)), .val (.int (((r &&& (255 : Int32))).toUInt32.toUInt16.toUInt32.toInt32))] [(.ref b168)]
      refine Wlk.areturn (t := (.object "java/lang/String")) dc_method_2_code_85 rfl rfl rfl rfl (by decide) (by decide) ?_
      exact ⟨b168, rfl, (Nat.le_trans (Nat.le_refl _) le170), g171, ((((((Keep.refl h0 []).ext E172).ext E182).wr W186 (Or.inr (Nat.le_trans E172.1 le180))).wr W190 (Or.inr (Nat.le_trans E172.1 le180))).trans K201 (allS (Or.inr (Nat.le_trans (Nat.le_refl _) le170)) all0)), S205.1⟩
  · skip
    refine Wlk.newO (pc' := 47) (C := "java/lang/String") dc_method_2_code_44 (hw _ (List.mem_of_getElem? (i := 4) rfl)) (hw _ (List.mem_of_getElem? (i := 5) rfl)) (hw _ (List.mem_of_getElem? (i := 6) rfl)) (by decide) (by decide) rfl (fun b206 h207 le208 g209 E210 A211 D212 => ?_)
    have F213 : Fld Z h207 b206 "java/lang/String" "value" "[B" .null := D212 (Or.inr (hw _ (List.mem_of_getElem? (i := 20) rfl))) (ty := (.array .byte)) (by decide)
    have F214 : Fld Z h207 b206 "java/lang/String" "coder" "B" (.int (0 : Int32)) := D212 (Or.inr (hw _ (List.mem_of_getElem? (i := 21) rfl))) (ty := .byte) (by decide)
    refine Wlk.dup (pc' := 48) dc_method_2_code_47 rfl rfl ?_
    refine Wlk.iconst (pc' := 49) (v := (1 : Int32)) dc_method_2_code_48 rfl rfl ?_
    refine Wlk.newP (pc' := 51) (ty := .char) (cap := 1) dc_method_2_code_49 rfl (hw _ (List.mem_of_getElem? (i := 7) rfl)) (by decide) (by decide) (by decide) (by decide) (by decide) rfl (fun b215 h216 kc217 le218 g219 E220 A221 => ?_)
    have A222 : Arv Z h216 b215 kc217 .char (1 : Int32) [.int 0] (.int 0) := A221.pad (pad_rep [] (.int 0) 1)
    refine Wlk.dup (pc' := 52) dc_method_2_code_51 rfl rfl ?_
    refine Wlk.iconst (pc' := 53) (v := (0 : Int32)) dc_method_2_code_52 rfl rfl ?_
    refine Wlk.iload (pc' := 55) (v := (((p &&& (255 : Int32))).toUInt32.toUInt16.toUInt32.toInt32)) dc_method_2_code_53 rfl rfl ?_
    refine Wlk.castore (pc' := 56) (i := 0) dc_method_2_code_55 A222 ⟨by decide, by decide⟩ rfl (Nat.le_of_ble_eq_true rfl) g219 rfl (fun h223 W224 A225 => ?_)
    have A226 : Arv Z h223 b215 kc217 .char (1 : Int32) [(.int (nar .char (((p &&& (255 : Int32))).toUInt32.toUInt16.toUInt32.toInt32)))] (.int 0) := A225
    have c227 := ((A211.ext E220).wr W224)
    have c228 := ((F213.ext E220).other W224 (Or.inl (Nat.ne_of_lt (Nat.lt_of_lt_of_le A211.lt (Nat.le_trans (Nat.le_refl _) le218)))))
    have c229 := ((F214.ext E220).other W224 (Or.inl (Nat.ne_of_lt (Nat.lt_of_lt_of_le A211.lt (Nat.le_trans (Nat.le_refl _) le218)))))
    have hL230 : ∀ c ∈ [(nar .char (((p &&& (255 : Int32))).toUInt32.toUInt16.toUInt32.toInt32))], ¬ (255 : Int32) < c := by
      intro c hc
      simp only [List.mem_cons, List.not_mem_nil, or_false] at hc
      rcases hc with rfl
      · exact own_c255 _
    refine Wlk.callC (pc' := 59) (a := b206) (z := (⟨"java/lang/String", "<init>", "([C)V"⟩ : MethodName)) (argsL := [(.ref b215)]) (st := [(.ref b206)]) (W := 1) dc_method_2_code_56 (hw _ (List.mem_of_getElem? (i := 8) rfl)) (hw _ (List.mem_of_getElem? (i := 9) rfl)) (hw _ (List.mem_of_getElem? (i := 6) rfl)) (hw _ (List.mem_of_getElem? (i := 10) rfl)) (by decide) rfl pd_4 rfl (st_ini1 hw b206 b215 _ _ kc217 [(nar .char (((p &&& (255 : Int32))).toUInt32.toUInt16.toUInt32.toInt32))] _ h223 c227 c228 c229 g209 A226 (Nat.le_of_ble_eq_true rfl) (Nat.le_of_ble_eq_true rfl) hL230 zc O2 P3) (by decide) rfl (by decide) (by decide) (by decide) rfl rfl (fun v231 h232 J233 q234 => ?_)
    obtain ⟨rfl, K235, t236, le237, g238, S239⟩ := q234
    show Wlk _ _ _ _ _ _ _ _ _ h232 3 8 59 #[.val (.int n), .val (.int p), .val (.int q), .val (.int r), .val (.int (((p &&& (255 : Int32))).toUInt32.toUInt16.toUInt32.toInt32)), .val (.int (((q &&& (255 : Int32))).toUInt32.toUInt16.toUInt32.toInt32)), .val (.int (((r &&& (255 : Int32))).toUInt32.toUInt16.toUInt32.toInt32))] [(.ref b206)]
    refine Wlk.areturn (t := (.object "java/lang/String")) dc_method_2_code_59 rfl rfl rfl rfl (by decide) (by decide) ?_
    exact ⟨b206, rfl, (Nat.le_trans (Nat.le_refl _) le208), g209, (((((Keep.refl h0 []).ext E210).ext E220).wr W224 (Or.inr (Nat.le_trans E210.1 le218))).trans K235 (allS (Or.inr (Nat.le_trans (Nat.le_refl _) le208)) all0)), S239.1⟩

set_option maxRecDepth 65536 in
set_option maxHeartbeats 40000000 in
theorem rm_str0c {l : Launch} {Z : State} {a0 : Array Value} (hw : ∀ d ∈ tables_1, d.before a0 Z = true) (p : Int32) (q : Int32) (r : Int32) (Ts : List String) (Lt : List (String × Nat × Addr)) (h0 : Heap) (wS : ∀ a ∈ Bundle.stringAtoms, a.before a0 Z = true) (hcw : Jvm.Lit.compactW.before a0 Z = true) (hh_7 : Jvm.Lit.constHeld Z "java/lang/String" 7) (hnT : "" ∉ Ts) :
    Met l Z (⟨"com/example/strict_crosswalk/strictcrosswalk/description/AspectOtherPinLaw", "str", "(IIII)Ljava/lang/String;"⟩ : MethodName) method_2_code 7 (some (.object "java/lang/String")) true [] ({ frames := 3, cells := 4, slots := 8, locals := 43 } : Room) #[(.int (0 : Int32)), (.int p), (.int q), (.int r)] h0 (true, Ts, Lt) (fun v h J' => ∃ (s : Addr) (c : Addr) (cb : Addr) (kb : ClassId), v = some (.ref s) ∧ h0.size ≤ s ∧ Z.heap.size ≤ s ∧ Keep h0 h [] ∧ Exa Z h c "java/lang/String" ∧ Fld Z h c "java/lang/String" "value" "[B" (.ref cb) ∧ Fld Z h c "java/lang/String" "coder" "B" (.int (0 : Int32)) ∧ Arv Z h cb kb .byte (0 : Int32) [] (.int 0) ∧ Exa Z h s "java/lang/String" ∧ J' = (true, "" :: Ts, ("java/lang/String", 7, c) :: Lt)) := by
  refine Met.of_goes (Ls := #[.val (.int (0 : Int32)), .val (.int p), .val (.int q), .val (.int r), .unset, .unset, .unset]) (by first | exact plainFor_of_name (by first | (simp [plainName, overriddenIn]; done) | decide +kernel) | decide +kernel) (fun m => by first | (simp [entryFrame, mkF, argsToLocals, Value.category]; done) | rfl) rfl (fun G hGl => ?_)
  subst hGl
  refine Wlk.iloadN (pc' := 1) (v := p) dc_method_2_code_0 rfl rfl ?_
  refine Wlk.sipush (pc' := 4) (v := (255 : Int32)) dc_method_2_code_1 (by decide) rfl ?_
  refine Wlk.iand (pc' := 5) dc_method_2_code_4 rfl ?_
  refine Wlk.i2c (pc' := 6) dc_method_2_code_5 rfl ?_
  refine Wlk.istore (pc' := 8) (Ls' := #[.val (.int (0 : Int32)), .val (.int p), .val (.int q), .val (.int r), .val (.int (((p &&& (255 : Int32))).toUInt32.toUInt16.toUInt32.toInt32)), .unset, .unset]) dc_method_2_code_6 rfl rfl rfl ?_
  refine Wlk.iloadN (pc' := 9) (v := q) dc_method_2_code_8 rfl rfl ?_
  refine Wlk.sipush (pc' := 12) (v := (255 : Int32)) dc_method_2_code_9 (by decide) rfl ?_
  refine Wlk.iand (pc' := 13) dc_method_2_code_12 rfl ?_
  refine Wlk.i2c (pc' := 14) dc_method_2_code_13 rfl ?_
  refine Wlk.istore (pc' := 16) (Ls' := #[.val (.int (0 : Int32)), .val (.int p), .val (.int q), .val (.int r), .val (.int (((p &&& (255 : Int32))).toUInt32.toUInt16.toUInt32.toInt32)), .val (.int (((q &&& (255 : Int32))).toUInt32.toUInt16.toUInt32.toInt32)), .unset]) dc_method_2_code_14 rfl rfl rfl ?_
  refine Wlk.iloadN (pc' := 17) (v := r) dc_method_2_code_16 rfl rfl ?_
  refine Wlk.sipush (pc' := 20) (v := (255 : Int32)) dc_method_2_code_17 (by decide) rfl ?_
  refine Wlk.iand (pc' := 21) dc_method_2_code_20 rfl ?_
  refine Wlk.i2c (pc' := 22) dc_method_2_code_21 rfl ?_
  refine Wlk.istore (pc' := 24) (Ls' := #[.val (.int (0 : Int32)), .val (.int p), .val (.int q), .val (.int r), .val (.int (((p &&& (255 : Int32))).toUInt32.toUInt16.toUInt32.toInt32)), .val (.int (((q &&& (255 : Int32))).toUInt32.toUInt16.toUInt32.toInt32)), .val (.int (((r &&& (255 : Int32))).toUInt32.toUInt16.toUInt32.toInt32))]) dc_method_2_code_22 rfl rfl rfl ?_
  refine Wlk.iloadN (pc' := 25) (v := (0 : Int32)) dc_method_2_code_24 rfl rfl ?_
  refine Wlk.ifF (pc' := 28) dc_method_2_code_25 (show (0 : Int32) = (0 : Int32) from by decide) rfl ?_
  refine Wlk.newO (pc' := 31) (C := "java/lang/String") dc_method_2_code_28 (hw _ (List.mem_of_getElem? (i := 4) rfl)) (hw _ (List.mem_of_getElem? (i := 5) rfl)) (hw _ (List.mem_of_getElem? (i := 6) rfl)) (by decide) (by decide) rfl (fun b240 h241 le242 g243 E244 A245 D246 => ?_)
  have F247 : Fld Z h241 b240 "java/lang/String" "value" "[B" .null := D246 (Or.inr (hw _ (List.mem_of_getElem? (i := 20) rfl))) (ty := (.array .byte)) (by decide)
  have F248 : Fld Z h241 b240 "java/lang/String" "coder" "B" (.int (0 : Int32)) := D246 (Or.inr (hw _ (List.mem_of_getElem? (i := 21) rfl))) (ty := .byte) (by decide)
  refine Wlk.dup (pc' := 32) dc_method_2_code_31 rfl rfl ?_
  refine Wlk.iconst (pc' := 33) (v := (0 : Int32)) dc_method_2_code_32 rfl rfl ?_
  refine Wlk.newP (pc' := 35) (ty := .char) (cap := 0) dc_method_2_code_33 rfl (hw _ (List.mem_of_getElem? (i := 7) rfl)) (by decide) (by decide) (by decide) (by decide) (by decide) rfl (fun b249 h250 kc251 le252 g253 E254 A255 => ?_)
  have A256 : Arv Z h250 b249 kc251 .char (0 : Int32) [] (.int 0) := A255.pad (pad_rep [] (.int 0) 0)
  have c257 := (A245.ext E254)
  have c258 := (F247.ext E254)
  have c259 := (F248.ext E254)
  refine Wlk.callCw (pc' := 38) (a := b240) (z := (⟨"java/lang/String", "<init>", "([C)V"⟩ : MethodName)) (argsL := [(.ref b249)]) (st := [(.ref b240)]) (W := 1) dc_method_2_code_35 (hw _ (List.mem_of_getElem? (i := 8) rfl)) (hw _ (List.mem_of_getElem? (i := 9) rfl)) (hw _ (List.mem_of_getElem? (i := 6) rfl)) (hw _ (List.mem_of_getElem? (i := 10) rfl)) (by decide) rfl pd_4 rfl (st_emp1c hw b240 b249 (.int (0 : Int32)) kc251 [] (.int 0) Ts Lt h250 c257 c258 c259 g243 A256 wS hcw hh_7 (by first | exact hnT | decide)) (by decide) rfl (by decide) (by decide) (by decide) rfl rfl (fun v260 h261 J262 q263 => ?_)
  obtain ⟨c264, cb265, kb266, rfl, K267, n268, n269, n270, n271, n272, n273, n274, rfl⟩ := q263
  show Wlk _ _ _ _ _ _ _ _ _ h261 4 8 38 #[.val (.int (0 : Int32)), .val (.int p), .val (.int q), .val (.int r), .val (.int (((p &&& (255 : Int32))).toUInt32.toUInt16.toUInt32.toInt32)), .val (.int (((q &&& (255 : Int32))).toUInt32.toUInt16.toUInt32.toInt32)), .val (.int (((r &&& (255 : Int32))).toUInt32.toUInt16.toUInt32.toInt32))] [(.ref b240)]
  refine Wlk.areturn (t := (.object "java/lang/String")) dc_method_2_code_38 rfl rfl rfl rfl (by decide) (by decide) ?_
  exact ⟨b240, c264, cb265, kb266, rfl, (Nat.le_trans (Nat.le_refl _) le242), g243, ((((Keep.refl h0 []).ext E244).ext E254).trans K267 (allS (Or.inr (Nat.le_trans (Nat.le_refl _) le242)) all0)), n268, n269, n270, n271, n272, rfl⟩

set_option maxRecDepth 65536 in
set_option maxHeartbeats 40000000 in
theorem rm_str0w {l : Launch} {Z : State} {a0 : Array Value} (hw : ∀ d ∈ tables_1, d.before a0 Z = true) (p : Int32) (q : Int32) (r : Int32) (c : Addr) (cb : Addr) (kb : ClassId) (Ts : List String) (Lt : List (String × Nat × Addr)) (h0 : Heap) (q0_E : Exa Z h0 c "java/lang/String") (q1_F : Fld Z h0 c "java/lang/String" "value" "[B" (.ref cb)) (q2_F : Fld Z h0 c "java/lang/String" "coder" "B" (.int (0 : Int32))) (q3_A : Arv Z h0 cb kb .byte (0 : Int32) [] (.int 0)) (hin : ("java/lang/String", 7, c) ∈ Lt) :
    Met l Z (⟨"com/example/strict_crosswalk/strictcrosswalk/description/AspectOtherPinLaw", "str", "(IIII)Ljava/lang/String;"⟩ : MethodName) method_2_code 7 (some (.object "java/lang/String")) true [] ({ frames := 3, cells := 2, slots := 4, locals := 43 } : Room) #[(.int (0 : Int32)), (.int p), (.int q), (.int r)] h0 (true, Ts, Lt) (fun v h J' => ∃ (s : Addr), v = some (.ref s) ∧ h0.size ≤ s ∧ Z.heap.size ≤ s ∧ Keep h0 h [] ∧ Exa Z h c "java/lang/String" ∧ Fld Z h c "java/lang/String" "value" "[B" (.ref cb) ∧ Fld Z h c "java/lang/String" "coder" "B" (.int (0 : Int32)) ∧ Arv Z h cb kb .byte (0 : Int32) [] (.int 0) ∧ Exa Z h s "java/lang/String" ∧ J' = (true, Ts, Lt)) := by
  refine Met.of_goes (Ls := #[.val (.int (0 : Int32)), .val (.int p), .val (.int q), .val (.int r), .unset, .unset, .unset]) (by first | exact plainFor_of_name (by first | (simp [plainName, overriddenIn]; done) | decide +kernel) | decide +kernel) (fun m => by first | (simp [entryFrame, mkF, argsToLocals, Value.category]; done) | rfl) rfl (fun G hGl => ?_)
  subst hGl
  refine Wlk.iloadN (pc' := 1) (v := p) dc_method_2_code_0 rfl rfl ?_
  refine Wlk.sipush (pc' := 4) (v := (255 : Int32)) dc_method_2_code_1 (by decide) rfl ?_
  refine Wlk.iand (pc' := 5) dc_method_2_code_4 rfl ?_
  refine Wlk.i2c (pc' := 6) dc_method_2_code_5 rfl ?_
  refine Wlk.istore (pc' := 8) (Ls' := #[.val (.int (0 : Int32)), .val (.int p), .val (.int q), .val (.int r), .val (.int (((p &&& (255 : Int32))).toUInt32.toUInt16.toUInt32.toInt32)), .unset, .unset]) dc_method_2_code_6 rfl rfl rfl ?_
  refine Wlk.iloadN (pc' := 9) (v := q) dc_method_2_code_8 rfl rfl ?_
  refine Wlk.sipush (pc' := 12) (v := (255 : Int32)) dc_method_2_code_9 (by decide) rfl ?_
  refine Wlk.iand (pc' := 13) dc_method_2_code_12 rfl ?_
  refine Wlk.i2c (pc' := 14) dc_method_2_code_13 rfl ?_
  refine Wlk.istore (pc' := 16) (Ls' := #[.val (.int (0 : Int32)), .val (.int p), .val (.int q), .val (.int r), .val (.int (((p &&& (255 : Int32))).toUInt32.toUInt16.toUInt32.toInt32)), .val (.int (((q &&& (255 : Int32))).toUInt32.toUInt16.toUInt32.toInt32)), .unset]) dc_method_2_code_14 rfl rfl rfl ?_
  refine Wlk.iloadN (pc' := 17) (v := r) dc_method_2_code_16 rfl rfl ?_
  refine Wlk.sipush (pc' := 20) (v := (255 : Int32)) dc_method_2_code_17 (by decide) rfl ?_
  refine Wlk.iand (pc' := 21) dc_method_2_code_20 rfl ?_
  refine Wlk.i2c (pc' := 22) dc_method_2_code_21 rfl ?_
  refine Wlk.istore (pc' := 24) (Ls' := #[.val (.int (0 : Int32)), .val (.int p), .val (.int q), .val (.int r), .val (.int (((p &&& (255 : Int32))).toUInt32.toUInt16.toUInt32.toInt32)), .val (.int (((q &&& (255 : Int32))).toUInt32.toUInt16.toUInt32.toInt32)), .val (.int (((r &&& (255 : Int32))).toUInt32.toUInt16.toUInt32.toInt32))]) dc_method_2_code_22 rfl rfl rfl ?_
  refine Wlk.iloadN (pc' := 25) (v := (0 : Int32)) dc_method_2_code_24 rfl rfl ?_
  refine Wlk.ifF (pc' := 28) dc_method_2_code_25 (show (0 : Int32) = (0 : Int32) from by decide) rfl ?_
  refine Wlk.newO (pc' := 31) (C := "java/lang/String") dc_method_2_code_28 (hw _ (List.mem_of_getElem? (i := 4) rfl)) (hw _ (List.mem_of_getElem? (i := 5) rfl)) (hw _ (List.mem_of_getElem? (i := 6) rfl)) (by decide) (by decide) rfl (fun b275 h276 le277 g278 E279 A280 D281 => ?_)
  have F282 : Fld Z h276 b275 "java/lang/String" "value" "[B" .null := D281 (Or.inr (hw _ (List.mem_of_getElem? (i := 20) rfl))) (ty := (.array .byte)) (by decide)
  have F283 : Fld Z h276 b275 "java/lang/String" "coder" "B" (.int (0 : Int32)) := D281 (Or.inr (hw _ (List.mem_of_getElem? (i := 21) rfl))) (ty := .byte) (by decide)
  refine Wlk.dup (pc' := 32) dc_method_2_code_31 rfl rfl ?_
  refine Wlk.iconst (pc' := 33) (v := (0 : Int32)) dc_method_2_code_32 rfl rfl ?_
  refine Wlk.newP (pc' := 35) (ty := .char) (cap := 0) dc_method_2_code_33 rfl (hw _ (List.mem_of_getElem? (i := 7) rfl)) (by decide) (by decide) (by decide) (by decide) (by decide) rfl (fun b284 h285 kc286 le287 g288 E289 A290 => ?_)
  have A291 : Arv Z h285 b284 kc286 .char (0 : Int32) [] (.int 0) := A290.pad (pad_rep [] (.int 0) 0)
  have c292 := (A280.ext E289)
  have c293 := (F282.ext E289)
  have c294 := (F283.ext E289)
  have c295 := ((q0_E.ext E279).ext E289)
  have c296 := ((q1_F.ext E279).ext E289)
  have c297 := ((q2_F.ext E279).ext E289)
  have c298 := ((q3_A.ext E279).ext E289)
  refine Wlk.callCw (pc' := 38) (a := b275) (z := (⟨"java/lang/String", "<init>", "([C)V"⟩ : MethodName)) (argsL := [(.ref b284)]) (st := [(.ref b275)]) (W := 1) dc_method_2_code_35 (hw _ (List.mem_of_getElem? (i := 8) rfl)) (hw _ (List.mem_of_getElem? (i := 9) rfl)) (hw _ (List.mem_of_getElem? (i := 6) rfl)) (hw _ (List.mem_of_getElem? (i := 10) rfl)) (by decide) rfl pd_4 rfl (st_emp1w hw b275 b284 (.int (0 : Int32)) kc286 [] (.int 0) c cb kb Ts Lt h285 c292 c293 c294 g278 A291 c295 c296 c297 c298 (Nat.ne_of_lt (Nat.lt_of_lt_of_le q0_E.lt (Nat.le_trans (Nat.le_refl _) le277))) (Nat.ne_of_lt (Nat.lt_of_lt_of_le q3_A.lt (Nat.le_trans (Nat.le_refl _) le277))) (by first | exact hin | simp)) (by decide) rfl (by decide) (by decide) (by decide) rfl rfl (fun v299 h300 J301 q302 => ?_)
  obtain ⟨rfl, K303, n304, n305, n306, n307, n308, n309, n310, rfl⟩ := q302
  show Wlk _ _ _ _ _ _ _ _ _ h300 2 4 38 #[.val (.int (0 : Int32)), .val (.int p), .val (.int q), .val (.int r), .val (.int (((p &&& (255 : Int32))).toUInt32.toUInt16.toUInt32.toInt32)), .val (.int (((q &&& (255 : Int32))).toUInt32.toUInt16.toUInt32.toInt32)), .val (.int (((r &&& (255 : Int32))).toUInt32.toUInt16.toUInt32.toInt32))] [(.ref b275)]
  refine Wlk.areturn (t := (.object "java/lang/String")) dc_method_2_code_38 rfl rfl rfl rfl (by decide) (by decide) ?_
  exact ⟨b275, rfl, (Nat.le_trans (Nat.le_refl _) le277), g278, ((((Keep.refl h0 []).ext E279).ext E289).trans K303 (allS (Or.inr (Nat.le_trans (Nat.le_refl _) le277)) all0)), n304, n305, n306, n307, n308, rfl⟩

set_option maxRecDepth 65536 in
set_option maxHeartbeats 40000000 in
theorem rm_aiR {l : Launch} {Z : State} {a0 : Array Value} (hw : ∀ d ∈ tables_1, d.before a0 Z = true) (x : Addr) (ot : Addr) (s : Addr) (u1 : Value) (u2 : Value) (h0 : Heap) (q0_E : Exa Z h0 x "com/example/strict_crosswalk/strictcrosswalk/description/Aspect") (q1_F : Fld Z h0 x "com/example/strict_crosswalk/strictcrosswalk/description/Aspect" "part" "Lcom/example/strict_crosswalk/strictcrosswalk/description/Aspect$Part;" u1) (q2_F : Fld Z h0 x "com/example/strict_crosswalk/strictcrosswalk/description/Aspect" "name" "Ljava/lang/String;" u2) (q3_G : Z.heap.size ≤ x) :
    Met l Z (⟨"com/example/strict_crosswalk/strictcrosswalk/description/Aspect", "<init>", "(Lcom/example/strict_crosswalk/strictcrosswalk/description/Aspect$Part;Ljava/lang/String;)V"⟩ : MethodName) prog_11_method_1_code 3 none false [] ({ frames := 1, cells := 0, slots := 0, locals := 12 } : Room) #[(.ref x), (.ref ot), (.ref s)] h0 (false, [], []) (fun v h J' => v = none ∧ Keep h0 h [x] ∧ Exa Z h x "com/example/strict_crosswalk/strictcrosswalk/description/Aspect" ∧ Fld Z h x "com/example/strict_crosswalk/strictcrosswalk/description/Aspect" "part" "Lcom/example/strict_crosswalk/strictcrosswalk/description/Aspect$Part;" (.ref ot) ∧ Fld Z h x "com/example/strict_crosswalk/strictcrosswalk/description/Aspect" "name" "Ljava/lang/String;" (.ref s)) := by
  refine Met.of_goes (Ls := #[.val (.ref x), .val (.ref ot), .val (.ref s)]) (by first | exact plainFor_of_name (by first | (simp [plainName, overriddenIn]; done) | decide +kernel) | decide +kernel) (fun m => by first | (simp [entryFrame, mkF, argsToLocals, Value.category]; done) | rfl) rfl (fun G hGl => ?_)
  subst hGl
  refine Wlk.aloadN (pc' := 1) (v := (.ref x)) dc_prog_11_method_1_code_0 rfl rfl rfl ?_
  refine Wlk.initO (pc' := 4) (W := 0) dc_prog_11_method_1_code_1 (hw _ (List.mem_of_getElem? (i := 38) rfl)) (hw _ (List.mem_of_getElem? (i := 16) rfl)) (hw _ (List.mem_of_getElem? (i := 17) rfl)) (by decide) rfl (by decide) rfl ?_
  refine Wlk.aloadN (pc' := 5) (v := (.ref x)) dc_prog_11_method_1_code_4 rfl rfl rfl ?_
  refine Wlk.aloadN (pc' := 6) (v := (.ref ot)) dc_prog_11_method_1_code_5 rfl rfl rfl ?_
  refine Wlk.putF (pc' := 9) (ty := (.object "com/example/strict_crosswalk/strictcrosswalk/description/Aspect$Part")) dc_prog_11_method_1_code_6 (hw _ (List.mem_of_getElem? (i := 39) rfl)) Via.refl q1_F q0_E (Or.inr ⟨(hw _ (List.mem_of_getElem? (i := 40) rfl)), rfl, rfl⟩) (hw _ (List.mem_of_getElem? (i := 31) rfl)) (by decide) rfl rfl q3_G rfl (fun h312 W311 => ?_)
  have F313 := q1_F.same W311
  refine Wlk.aloadN (pc' := 10) (v := (.ref x)) dc_prog_11_method_1_code_9 rfl rfl rfl ?_
  refine Wlk.aloadN (pc' := 11) (v := (.ref s)) dc_prog_11_method_1_code_10 rfl rfl rfl ?_
  have c314 := (q2_F.other W311 (Or.inr (slot_ne (Or.inr (hw _ (List.mem_of_getElem? (i := 42) rfl))) (Or.inr (hw _ (List.mem_of_getElem? (i := 40) rfl))) (by decide) (t := (.object "java/lang/String")) (t' := (.object "com/example/strict_crosswalk/strictcrosswalk/description/Aspect$Part")) (by decide) (by decide))))
  have c315 := (q0_E.wr W311)
  refine Wlk.putF (pc' := 14) (ty := (.object "java/lang/String")) dc_prog_11_method_1_code_11 (hw _ (List.mem_of_getElem? (i := 41) rfl)) Via.refl c314 c315 (Or.inr ⟨(hw _ (List.mem_of_getElem? (i := 42) rfl)), rfl, rfl⟩) (hw _ (List.mem_of_getElem? (i := 31) rfl)) (by decide) rfl rfl q3_G rfl (fun h317 W316 => ?_)
  have F318 := c314.same W316
  refine Wlk.return_ dc_prog_11_method_1_code_14 rfl (by decide) (by decide) ?_
  have c319 := (c315.wr W316)
  have c320 := (F313.other W316 (Or.inr (slot_ne (Or.inr (hw _ (List.mem_of_getElem? (i := 40) rfl))) (Or.inr (hw _ (List.mem_of_getElem? (i := 42) rfl))) (by decide) (t := (.object "com/example/strict_crosswalk/strictcrosswalk/description/Aspect$Part")) (t' := (.object "java/lang/String")) (by decide) (by decide))))
  exact ⟨rfl, (((Keep.refl h0 [x]).wr W311 (Or.inl (List.mem_of_getElem? (i := 0) rfl))).wr W316 (Or.inl (List.mem_of_getElem? (i := 0) rfl))), c319, c320, F318⟩

set_option maxRecDepth 65536 in
set_option maxHeartbeats 40000000 in
theorem rm_otR {l : Launch} {Z : State} {a0 : Array Value} (hw : ∀ d ∈ tables_1, d.before a0 Z = true) (s : Addr) (ot : Addr) (h0 : Heap) (q0_Sta : Sta Z Z.heap "com/example/strict_crosswalk/strictcrosswalk/description/Aspect$Part" "OTHER" "Lcom/example/strict_crosswalk/strictcrosswalk/description/Aspect$Part;" (.ref ot)) :
    Met l Z (⟨"com/example/strict_crosswalk/strictcrosswalk/description/Aspect", "other", "(Ljava/lang/String;)Lcom/example/strict_crosswalk/strictcrosswalk/description/Aspect;"⟩ : MethodName) prog_11_method_4_code 1 (some (.object "com/example/strict_crosswalk/strictcrosswalk/description/Aspect")) false [] ({ frames := 2, cells := 1, slots := 2, locals := 27 } : Room) #[(.ref s)] h0 (false, [], []) (fun v h J' => ∃ (x : Addr), v = some (.ref x) ∧ h0.size ≤ x ∧ Z.heap.size ≤ x ∧ Keep h0 h [] ∧ Exa Z h x "com/example/strict_crosswalk/strictcrosswalk/description/Aspect" ∧ Fld Z h x "com/example/strict_crosswalk/strictcrosswalk/description/Aspect" "part" "Lcom/example/strict_crosswalk/strictcrosswalk/description/Aspect$Part;" (.ref ot) ∧ Fld Z h x "com/example/strict_crosswalk/strictcrosswalk/description/Aspect" "name" "Ljava/lang/String;" (.ref s)) := by
  refine Met.of_goes (Ls := #[.val (.ref s)]) (by first | exact plainFor_of_name (by first | (simp [plainName, overriddenIn]; done) | decide +kernel) | decide +kernel) (fun m => by first | (simp [entryFrame, mkF, argsToLocals, Value.category]; done) | rfl) rfl (fun G hGl => ?_)
  subst hGl
  refine Wlk.newO (pc' := 3) (C := "com/example/strict_crosswalk/strictcrosswalk/description/Aspect") dc_prog_11_method_4_code_0 (hw _ (List.mem_of_getElem? (i := 30) rfl)) (hw _ (List.mem_of_getElem? (i := 31) rfl)) (hw _ (List.mem_of_getElem? (i := 28) rfl)) (by decide) (by decide) rfl (fun b321 h322 le323 g324 E325 A326 D327 => ?_)
  have F328 : Fld Z h322 b321 "com/example/strict_crosswalk/strictcrosswalk/description/Aspect" "part" "Lcom/example/strict_crosswalk/strictcrosswalk/description/Aspect$Part;" .null := D327 (Or.inr (hw _ (List.mem_of_getElem? (i := 40) rfl))) (ty := (.object "com/example/strict_crosswalk/strictcrosswalk/description/Aspect$Part")) (by decide)
  have F329 : Fld Z h322 b321 "com/example/strict_crosswalk/strictcrosswalk/description/Aspect" "name" "Ljava/lang/String;" .null := D327 (Or.inr (hw _ (List.mem_of_getElem? (i := 42) rfl))) (ty := (.object "java/lang/String")) (by decide)
  refine Wlk.dup (pc' := 4) dc_prog_11_method_4_code_3 rfl rfl ?_
  refine Wlk.getS (pc' := 7) (v := (.ref ot)) dc_prog_11_method_4_code_4 (hw _ (List.mem_of_getElem? (i := 32) rfl)) Via.refl q0_Sta rfl ?_
  refine Wlk.aloadN (pc' := 8) (v := (.ref s)) dc_prog_11_method_4_code_7 rfl rfl rfl ?_
  refine Wlk.callC (pc' := 11) (a := b321) (z := (⟨"com/example/strict_crosswalk/strictcrosswalk/description/Aspect", "<init>", "(Lcom/example/strict_crosswalk/strictcrosswalk/description/Aspect$Part;Ljava/lang/String;)V"⟩ : MethodName)) (argsL := [(.ref ot), (.ref s)]) (st := [(.ref b321)]) (W := 1) dc_prog_11_method_4_code_8 (hw _ (List.mem_of_getElem? (i := 35) rfl)) (hw _ (List.mem_of_getElem? (i := 36) rfl)) (hw _ (List.mem_of_getElem? (i := 28) rfl)) (hw _ (List.mem_of_getElem? (i := 37) rfl)) (by decide) rfl pd_5 rfl (rm_aiR hw b321 ot s .null .null h322 A326 F328 F329 g324) (by decide) rfl (by decide) (by decide) (by decide) rfl rfl (fun v330 h331 J332 q333 => ?_)
  obtain ⟨rfl, K334, n335, n336, n337⟩ := q333
  show Wlk _ _ _ _ _ _ _ _ _ h331 1 2 11 #[.val (.ref s)] [(.ref b321)]
  refine Wlk.areturn (t := (.object "com/example/strict_crosswalk/strictcrosswalk/description/Aspect")) dc_prog_11_method_4_code_11 rfl rfl rfl rfl (by decide) (by decide) ?_
  exact ⟨b321, rfl, (Nat.le_trans (Nat.le_refl _) le323), g324, (((Keep.refl h0 []).ext E325).trans K334 (allS (Or.inr (Nat.le_trans (Nat.le_refl _) le323)) all0)), n335, n336, n337⟩

set_option maxRecDepth 65536 in
set_option maxHeartbeats 40000000 in
theorem rm_gnR {l : Launch} {Z : State} {a0 : Array Value} (hw : ∀ d ∈ tables_1, d.before a0 Z = true) (x : Addr) (s : Addr) (h0 : Heap) (q0_F : Fld Z h0 x "com/example/strict_crosswalk/strictcrosswalk/description/Aspect" "name" "Ljava/lang/String;" (.ref s)) :
    Met l Z (⟨"com/example/strict_crosswalk/strictcrosswalk/description/Aspect", "getName", "()Ljava/lang/String;"⟩ : MethodName) prog_11_method_6_code 1 (some (.object "java/lang/String")) false [] ({ frames := 0, cells := 0, slots := 0, locals := 0 } : Room) #[(.ref x)] h0 (false, [], []) (fun v h J' => v = some (.ref s) ∧ h0 = h) := by
  refine Met.of_goes (Ls := #[.val (.ref x)]) (by first | exact plainFor_of_name (by first | (simp [plainName, overriddenIn]; done) | decide +kernel) | decide +kernel) (fun m => by first | (simp [entryFrame, mkF, argsToLocals, Value.category]; done) | rfl) rfl (fun G hGl => ?_)
  subst hGl
  refine Wlk.aloadN (pc' := 1) (v := (.ref x)) dc_prog_11_method_6_code_0 rfl rfl rfl ?_
  refine Wlk.getF (pc' := 4) (v := (.ref s)) dc_prog_11_method_6_code_1 (hw _ (List.mem_of_getElem? (i := 41) rfl)) Via.refl q0_F rfl ?_
  refine Wlk.areturn (t := (.object "java/lang/String")) dc_prog_11_method_6_code_4 rfl rfl rfl rfl (by decide) (by decide) ?_
  exact ⟨rfl, rfl⟩

set_option maxRecDepth 65536 in
set_option maxHeartbeats 40000000 in
theorem rm_aiN {l : Launch} {Z : State} {a0 : Array Value} (hw : ∀ d ∈ tables_1, d.before a0 Z = true) (x : Addr) (ot : Addr) (u1 : Value) (u2 : Value) (h0 : Heap) (q0_E : Exa Z h0 x "com/example/strict_crosswalk/strictcrosswalk/description/Aspect") (q1_F : Fld Z h0 x "com/example/strict_crosswalk/strictcrosswalk/description/Aspect" "part" "Lcom/example/strict_crosswalk/strictcrosswalk/description/Aspect$Part;" u1) (q2_F : Fld Z h0 x "com/example/strict_crosswalk/strictcrosswalk/description/Aspect" "name" "Ljava/lang/String;" u2) (q3_G : Z.heap.size ≤ x) :
    Met l Z (⟨"com/example/strict_crosswalk/strictcrosswalk/description/Aspect", "<init>", "(Lcom/example/strict_crosswalk/strictcrosswalk/description/Aspect$Part;Ljava/lang/String;)V"⟩ : MethodName) prog_11_method_1_code 3 none false [] ({ frames := 1, cells := 0, slots := 0, locals := 12 } : Room) #[(.ref x), (.ref ot), .null] h0 (false, [], []) (fun v h J' => v = none ∧ Keep h0 h [x] ∧ Exa Z h x "com/example/strict_crosswalk/strictcrosswalk/description/Aspect" ∧ Fld Z h x "com/example/strict_crosswalk/strictcrosswalk/description/Aspect" "part" "Lcom/example/strict_crosswalk/strictcrosswalk/description/Aspect$Part;" (.ref ot) ∧ Fld Z h x "com/example/strict_crosswalk/strictcrosswalk/description/Aspect" "name" "Ljava/lang/String;" .null) := by
  refine Met.of_goes (Ls := #[.val (.ref x), .val (.ref ot), .val .null]) (by first | exact plainFor_of_name (by first | (simp [plainName, overriddenIn]; done) | decide +kernel) | decide +kernel) (fun m => by first | (simp [entryFrame, mkF, argsToLocals, Value.category]; done) | rfl) rfl (fun G hGl => ?_)
  subst hGl
  refine Wlk.aloadN (pc' := 1) (v := (.ref x)) dc_prog_11_method_1_code_0 rfl rfl rfl ?_
  refine Wlk.initO (pc' := 4) (W := 0) dc_prog_11_method_1_code_1 (hw _ (List.mem_of_getElem? (i := 38) rfl)) (hw _ (List.mem_of_getElem? (i := 16) rfl)) (hw _ (List.mem_of_getElem? (i := 17) rfl)) (by decide) rfl (by decide) rfl ?_
  refine Wlk.aloadN (pc' := 5) (v := (.ref x)) dc_prog_11_method_1_code_4 rfl rfl rfl ?_
  refine Wlk.aloadN (pc' := 6) (v := (.ref ot)) dc_prog_11_method_1_code_5 rfl rfl rfl ?_
  refine Wlk.putF (pc' := 9) (ty := (.object "com/example/strict_crosswalk/strictcrosswalk/description/Aspect$Part")) dc_prog_11_method_1_code_6 (hw _ (List.mem_of_getElem? (i := 39) rfl)) Via.refl q1_F q0_E (Or.inr ⟨(hw _ (List.mem_of_getElem? (i := 40) rfl)), rfl, rfl⟩) (hw _ (List.mem_of_getElem? (i := 31) rfl)) (by decide) rfl rfl q3_G rfl (fun h339 W338 => ?_)
  have F340 := q1_F.same W338
  refine Wlk.aloadN (pc' := 10) (v := (.ref x)) dc_prog_11_method_1_code_9 rfl rfl rfl ?_
  refine Wlk.aloadN (pc' := 11) (v := .null) dc_prog_11_method_1_code_10 rfl rfl rfl ?_
  have c341 := (q2_F.other W338 (Or.inr (slot_ne (Or.inr (hw _ (List.mem_of_getElem? (i := 42) rfl))) (Or.inr (hw _ (List.mem_of_getElem? (i := 40) rfl))) (by decide) (t := (.object "java/lang/String")) (t' := (.object "com/example/strict_crosswalk/strictcrosswalk/description/Aspect$Part")) (by decide) (by decide))))
  have c342 := (q0_E.wr W338)
  refine Wlk.putF (pc' := 14) (ty := (.object "java/lang/String")) dc_prog_11_method_1_code_11 (hw _ (List.mem_of_getElem? (i := 41) rfl)) Via.refl c341 c342 (Or.inr ⟨(hw _ (List.mem_of_getElem? (i := 42) rfl)), rfl, rfl⟩) (hw _ (List.mem_of_getElem? (i := 31) rfl)) (by decide) rfl rfl q3_G rfl (fun h344 W343 => ?_)
  have F345 := c341.same W343
  refine Wlk.return_ dc_prog_11_method_1_code_14 rfl (by decide) (by decide) ?_
  have c346 := (c342.wr W343)
  have c347 := (F340.other W343 (Or.inr (slot_ne (Or.inr (hw _ (List.mem_of_getElem? (i := 40) rfl))) (Or.inr (hw _ (List.mem_of_getElem? (i := 42) rfl))) (by decide) (t := (.object "com/example/strict_crosswalk/strictcrosswalk/description/Aspect$Part")) (t' := (.object "java/lang/String")) (by decide) (by decide))))
  exact ⟨rfl, (((Keep.refl h0 [x]).wr W338 (Or.inl (List.mem_of_getElem? (i := 0) rfl))).wr W343 (Or.inl (List.mem_of_getElem? (i := 0) rfl))), c346, c347, F345⟩

set_option maxRecDepth 65536 in
set_option maxHeartbeats 40000000 in
theorem rm_otN {l : Launch} {Z : State} {a0 : Array Value} (hw : ∀ d ∈ tables_1, d.before a0 Z = true) (ot : Addr) (h0 : Heap) (q0_Sta : Sta Z Z.heap "com/example/strict_crosswalk/strictcrosswalk/description/Aspect$Part" "OTHER" "Lcom/example/strict_crosswalk/strictcrosswalk/description/Aspect$Part;" (.ref ot)) :
    Met l Z (⟨"com/example/strict_crosswalk/strictcrosswalk/description/Aspect", "other", "(Ljava/lang/String;)Lcom/example/strict_crosswalk/strictcrosswalk/description/Aspect;"⟩ : MethodName) prog_11_method_4_code 1 (some (.object "com/example/strict_crosswalk/strictcrosswalk/description/Aspect")) false [] ({ frames := 2, cells := 1, slots := 2, locals := 27 } : Room) #[.null] h0 (false, [], []) (fun v h J' => ∃ (x : Addr), v = some (.ref x) ∧ h0.size ≤ x ∧ Z.heap.size ≤ x ∧ Keep h0 h [] ∧ Exa Z h x "com/example/strict_crosswalk/strictcrosswalk/description/Aspect" ∧ Fld Z h x "com/example/strict_crosswalk/strictcrosswalk/description/Aspect" "part" "Lcom/example/strict_crosswalk/strictcrosswalk/description/Aspect$Part;" (.ref ot) ∧ Fld Z h x "com/example/strict_crosswalk/strictcrosswalk/description/Aspect" "name" "Ljava/lang/String;" .null) := by
  refine Met.of_goes (Ls := #[.val .null]) (by first | exact plainFor_of_name (by first | (simp [plainName, overriddenIn]; done) | decide +kernel) | decide +kernel) (fun m => by first | (simp [entryFrame, mkF, argsToLocals, Value.category]; done) | rfl) rfl (fun G hGl => ?_)
  subst hGl
  refine Wlk.newO (pc' := 3) (C := "com/example/strict_crosswalk/strictcrosswalk/description/Aspect") dc_prog_11_method_4_code_0 (hw _ (List.mem_of_getElem? (i := 30) rfl)) (hw _ (List.mem_of_getElem? (i := 31) rfl)) (hw _ (List.mem_of_getElem? (i := 28) rfl)) (by decide) (by decide) rfl (fun b348 h349 le350 g351 E352 A353 D354 => ?_)
  have F355 : Fld Z h349 b348 "com/example/strict_crosswalk/strictcrosswalk/description/Aspect" "part" "Lcom/example/strict_crosswalk/strictcrosswalk/description/Aspect$Part;" .null := D354 (Or.inr (hw _ (List.mem_of_getElem? (i := 40) rfl))) (ty := (.object "com/example/strict_crosswalk/strictcrosswalk/description/Aspect$Part")) (by decide)
  have F356 : Fld Z h349 b348 "com/example/strict_crosswalk/strictcrosswalk/description/Aspect" "name" "Ljava/lang/String;" .null := D354 (Or.inr (hw _ (List.mem_of_getElem? (i := 42) rfl))) (ty := (.object "java/lang/String")) (by decide)
  refine Wlk.dup (pc' := 4) dc_prog_11_method_4_code_3 rfl rfl ?_
  refine Wlk.getS (pc' := 7) (v := (.ref ot)) dc_prog_11_method_4_code_4 (hw _ (List.mem_of_getElem? (i := 32) rfl)) Via.refl q0_Sta rfl ?_
  refine Wlk.aloadN (pc' := 8) (v := .null) dc_prog_11_method_4_code_7 rfl rfl rfl ?_
  refine Wlk.callC (pc' := 11) (a := b348) (z := (⟨"com/example/strict_crosswalk/strictcrosswalk/description/Aspect", "<init>", "(Lcom/example/strict_crosswalk/strictcrosswalk/description/Aspect$Part;Ljava/lang/String;)V"⟩ : MethodName)) (argsL := [(.ref ot), .null]) (st := [(.ref b348)]) (W := 1) dc_prog_11_method_4_code_8 (hw _ (List.mem_of_getElem? (i := 35) rfl)) (hw _ (List.mem_of_getElem? (i := 36) rfl)) (hw _ (List.mem_of_getElem? (i := 28) rfl)) (hw _ (List.mem_of_getElem? (i := 37) rfl)) (by decide) rfl pd_5 rfl (rm_aiN hw b348 ot .null .null h349 A353 F355 F356 g351) (by decide) rfl (by decide) (by decide) (by decide) rfl rfl (fun v357 h358 J359 q360 => ?_)
  obtain ⟨rfl, K361, n362, n363, n364⟩ := q360
  show Wlk _ _ _ _ _ _ _ _ _ h358 1 2 11 #[.val .null] [(.ref b348)]
  refine Wlk.areturn (t := (.object "com/example/strict_crosswalk/strictcrosswalk/description/Aspect")) dc_prog_11_method_4_code_11 rfl rfl rfl rfl (by decide) (by decide) ?_
  exact ⟨b348, rfl, (Nat.le_trans (Nat.le_refl _) le350), g351, (((Keep.refl h0 []).ext E352).trans K361 (allS (Or.inr (Nat.le_trans (Nat.le_refl _) le350)) all0)), n362, n363, n364⟩

set_option maxRecDepth 65536 in
set_option maxHeartbeats 40000000 in
theorem rm_gnN {l : Launch} {Z : State} {a0 : Array Value} (hw : ∀ d ∈ tables_1, d.before a0 Z = true) (x : Addr) (h0 : Heap) (q0_F : Fld Z h0 x "com/example/strict_crosswalk/strictcrosswalk/description/Aspect" "name" "Ljava/lang/String;" .null) :
    Met l Z (⟨"com/example/strict_crosswalk/strictcrosswalk/description/Aspect", "getName", "()Ljava/lang/String;"⟩ : MethodName) prog_11_method_6_code 1 (some (.object "java/lang/String")) false [] ({ frames := 0, cells := 0, slots := 0, locals := 0 } : Room) #[(.ref x)] h0 (false, [], []) (fun v h J' => v = some .null ∧ h0 = h) := by
  refine Met.of_goes (Ls := #[.val (.ref x)]) (by first | exact plainFor_of_name (by first | (simp [plainName, overriddenIn]; done) | decide +kernel) | decide +kernel) (fun m => by first | (simp [entryFrame, mkF, argsToLocals, Value.category]; done) | rfl) rfl (fun G hGl => ?_)
  subst hGl
  refine Wlk.aloadN (pc' := 1) (v := (.ref x)) dc_prog_11_method_6_code_0 rfl rfl rfl ?_
  refine Wlk.getF (pc' := 4) (v := .null) dc_prog_11_method_6_code_1 (hw _ (List.mem_of_getElem? (i := 41) rfl)) Via.refl q0_F rfl ?_
  refine Wlk.areturn (t := (.object "java/lang/String")) dc_prog_11_method_6_code_4 rfl rfl rfl rfl (by decide) (by decide) ?_
  exact ⟨rfl, rfl⟩

set_option maxRecDepth 65536 in
set_option maxHeartbeats 40000000 in
theorem rm_gp {l : Launch} {Z : State} {a0 : Array Value} (hw : ∀ d ∈ tables_1, d.before a0 Z = true) (x : Addr) (ot : Addr) (h0 : Heap) (q0_F : Fld Z h0 x "com/example/strict_crosswalk/strictcrosswalk/description/Aspect" "part" "Lcom/example/strict_crosswalk/strictcrosswalk/description/Aspect$Part;" (.ref ot)) :
    Met l Z (⟨"com/example/strict_crosswalk/strictcrosswalk/description/Aspect", "getPart", "()Lcom/example/strict_crosswalk/strictcrosswalk/description/Aspect$Part;"⟩ : MethodName) prog_11_method_5_code 1 (some (.object "com/example/strict_crosswalk/strictcrosswalk/description/Aspect$Part")) false [] ({ frames := 0, cells := 0, slots := 0, locals := 0 } : Room) #[(.ref x)] h0 (false, [], []) (fun v h J' => v = some (.ref ot) ∧ h0 = h) := by
  refine Met.of_goes (Ls := #[.val (.ref x)]) (by first | exact plainFor_of_name (by first | (simp [plainName, overriddenIn]; done) | decide +kernel) | decide +kernel) (fun m => by first | (simp [entryFrame, mkF, argsToLocals, Value.category]; done) | rfl) rfl (fun G hGl => ?_)
  subst hGl
  refine Wlk.aloadN (pc' := 1) (v := (.ref x)) dc_prog_11_method_5_code_0 rfl rfl rfl ?_
  refine Wlk.getF (pc' := 4) (v := (.ref ot)) dc_prog_11_method_5_code_1 (hw _ (List.mem_of_getElem? (i := 39) rfl)) Via.refl q0_F rfl ?_
  refine Wlk.areturn (t := (.object "com/example/strict_crosswalk/strictcrosswalk/description/Aspect$Part")) dc_prog_11_method_5_code_4 rfl rfl rfl rfl (by decide) (by decide) ?_
  exact ⟨rfl, rfl⟩

set_option maxRecDepth 65536 in
set_option maxHeartbeats 40000000 in
theorem rm_eqs {l : Launch} {Z : State} {a0 : Array Value} (hw : ∀ d ∈ tables_1, d.before a0 Z = true) (s : Addr) (h0 : Heap)  :
    Met l Z (⟨"java/lang/String", "equals", "(Ljava/lang/Object;)Z"⟩ : MethodName) jdk_42_method_66_code 3 (some .boolean) false [] ({ frames := 0, cells := 0, slots := 0, locals := 0 } : Room) #[(.ref s), (.ref s)] h0 (false, [], []) (fun v h J' => v = some (.int (1 : Int32)) ∧ h0 = h) := by
  refine Met.of_goes (Ls := #[.val (.ref s), .val (.ref s), .unset]) (by first | exact plainFor_of_name (by first | (simp [plainName, overriddenIn]; done) | decide +kernel) | decide +kernel) (fun m => by first | (simp [entryFrame, mkF, argsToLocals, Value.category]; done) | rfl) rfl (fun G hGl => ?_)
  subst hGl
  refine Wlk.aloadN (pc' := 1) (v := (.ref s)) dc_jdk_42_method_66_code_0 rfl rfl rfl ?_
  refine Wlk.aloadN (pc' := 2) (v := (.ref s)) dc_jdk_42_method_66_code_1 rfl rfl rfl ?_
  refine Wlk.acmp (pc' := 5) (same := true) dc_jdk_42_method_66_code_2 rfl rfl (decide_eq_true rfl) (by decide) (by decide) ?_
  refine Wlk.iconst (pc' := 6) (v := (1 : Int32)) dc_jdk_42_method_66_code_5 rfl rfl ?_
  refine Wlk.ireturnN (t := .boolean) dc_jdk_42_method_66_code_6 rfl (by simp) (by decide) (by decide) ?_
  exact ⟨rfl, rfl⟩

set_option maxRecDepth 65536 in
set_option maxHeartbeats 40000000 in
theorem rm_snR {l : Launch} {Z : State} {a0 : Array Value} (hw : ∀ d ∈ tables_1, d.before a0 Z = true) (s : Addr) (h0 : Heap) (q0_E : Exa Z h0 s "java/lang/String") :
    Met l Z (⟨"com/example/strict_crosswalk/strictcrosswalk/description/AspectOtherPinLaw", "sameName", "(Ljava/lang/String;Ljava/lang/String;)Z"⟩ : MethodName) method_3_code 2 (some .boolean) false [] ({ frames := 1, cells := 0, slots := 0, locals := 14 } : Room) #[(.ref s), (.ref s)] h0 (false, [], []) (fun v h J' => v = some (.int (1 : Int32)) ∧ h0 = h) := by
  refine Met.of_goes (Ls := #[.val (.ref s), .val (.ref s)]) (by first | exact plainFor_of_name (by first | (simp [plainName, overriddenIn]; done) | decide +kernel) | decide +kernel) (fun m => by first | (simp [entryFrame, mkF, argsToLocals, Value.category]; done) | rfl) rfl (fun G hGl => ?_)
  subst hGl
  refine Wlk.aloadN (pc' := 1) (v := (.ref s)) dc_method_3_code_0 rfl rfl rfl ?_
  refine Wlk.ifnonnullT (pc' := 14) dc_method_3_code_1 (by decide) (by decide) ?_
  refine Wlk.aloadN (pc' := 15) (v := (.ref s)) dc_method_3_code_14 rfl rfl rfl ?_
  refine Wlk.aloadN (pc' := 16) (v := (.ref s)) dc_method_3_code_15 rfl rfl rfl ?_
  refine Wlk.callV (pc' := 19) (a := s) (x := (⟨"java/lang/String", "equals", "(Ljava/lang/Object;)Z"⟩ : MethodName)) (C := "java/lang/String") (z := (⟨"java/lang/String", "equals", "(Ljava/lang/Object;)Z"⟩ : MethodName)) (argsL := [(.ref s)]) (st := []) (W := 0) dc_method_3_code_16 (hw _ (List.mem_of_getElem? (i := 57) rfl)) (hw _ (List.mem_of_getElem? (i := 58) rfl)) (fun s q => notFace_of_selects (args := #[]) (mvT q (hw _ (List.mem_of_getElem? (i := 60) rfl)))) (hw _ (List.mem_of_getElem? (i := 60) rfl)) (hw _ (List.mem_of_getElem? (i := 59) rfl)) q0_E (hw _ (List.mem_of_getElem? (i := 6) rfl)) (hw _ (List.mem_of_getElem? (i := 61) rfl)) (by decide) pd_6 rfl (rm_eqs hw s h0 ) (by decide) rfl (by decide) (by decide) (by decide) rfl rfl (fun v365 h366 J367 q368 => ?_)
  obtain ⟨rfl, rfl⟩ := q368
  show Wlk _ _ _ _ _ _ _ _ _ h0 0 0 19 #[.val (.ref s), .val (.ref s)] [(.int (1 : Int32))]
  refine Wlk.ireturnN (t := .boolean) dc_method_3_code_19 rfl (by simp) (by decide) (by decide) ?_
  exact ⟨rfl, rfl⟩

set_option maxRecDepth 65536 in
set_option maxHeartbeats 40000000 in
theorem rm_snN {l : Launch} {Z : State} {a0 : Array Value} (hw : ∀ d ∈ tables_1, d.before a0 Z = true)  (h0 : Heap)  :
    Met l Z (⟨"com/example/strict_crosswalk/strictcrosswalk/description/AspectOtherPinLaw", "sameName", "(Ljava/lang/String;Ljava/lang/String;)Z"⟩ : MethodName) method_3_code 2 (some .boolean) false [] ({ frames := 0, cells := 0, slots := 0, locals := 0 } : Room) #[.null, .null] h0 (false, [], []) (fun v h J' => v = some (.int (1 : Int32)) ∧ h0 = h) := by
  refine Met.of_goes (Ls := #[.val .null, .val .null]) (by first | exact plainFor_of_name (by first | (simp [plainName, overriddenIn]; done) | decide +kernel) | decide +kernel) (fun m => by first | (simp [entryFrame, mkF, argsToLocals, Value.category]; done) | rfl) rfl (fun G hGl => ?_)
  subst hGl
  refine Wlk.aloadN (pc' := 1) (v := .null) dc_method_3_code_0 rfl rfl rfl ?_
  refine Wlk.ifnonnullF (pc' := 4) dc_method_3_code_1 rfl ?_
  refine Wlk.aloadN (pc' := 5) (v := .null) dc_method_3_code_4 rfl rfl rfl ?_
  refine Wlk.ifnonnullF (pc' := 8) dc_method_3_code_5 rfl ?_
  refine Wlk.iconst (pc' := 9) (v := (1 : Int32)) dc_method_3_code_8 rfl rfl ?_
  refine Wlk.goto (pc' := 13) dc_method_3_code_9 (by decide) (by decide) ?_
  refine Wlk.ireturnN (t := .boolean) dc_method_3_code_13 rfl (by simp) (by decide) (by decide) ?_
  exact ⟨rfl, rfl⟩

set_option maxRecDepth 65536 in
set_option maxHeartbeats 40000000 in
theorem rm_law {l : Launch} {Z : State} {a0 : Array Value} (hw : ∀ d ∈ tables_1, d.before a0 Z = true) (ws : List Jvm.Cond) (p1 p2 p3 p4 p5 : Int32) (h0 : Heap) (zc : Int32) (O2 : Sta Z Z.heap "java/lang/String" "COMPACT_STRINGS" "Z" (.int zc)) (P3 : ¬ zc = 0) (ot : Addr) (OT : Sta Z Z.heap "com/example/strict_crosswalk/strictcrosswalk/description/Aspect$Part" "OTHER" "Lcom/example/strict_crosswalk/strictcrosswalk/description/Aspect$Part;" (.ref ot)) (wS : ∀ a ∈ Bundle.stringAtoms, a.before a0 Z = true) (hcw : Jvm.Lit.compactW.before a0 Z = true) (hh_7 : Jvm.Lit.constHeld Z "java/lang/String" 7) :
    Met l Z x code maxLocals ret true ws room_1 #[(.int p1), (.int p2), (.int p3), (.int p4), (.int p5)] h0 (true, [], []) (fun v h J => v = some (.int 1)) := by
  refine Met.of_goes (Ls := #[.val (.int p1), .val (.int p2), .val (.int p3), .val (.int p4), .val (.int p5), .unset, .unset, .unset, .unset]) (by first | exact plainFor_of_name (by first | (simp [plainName, overriddenIn]; done) | decide +kernel) | decide +kernel) (fun m => by first | (simp [entryFrame, mkF, argsToLocals, Value.category, maxLocals]; done) | rfl) rfl (fun G hGl => ?_)
  subst hGl
  refine Wlk.iloadN (pc' := 1) (v := p1) at_0 rfl rfl ?_
  refine Wlk.iconst (pc' := 2) (v := (3 : Int32)) at_1 rfl rfl ?_
  refine Wlk.iand (pc' := 3) at_2 rfl ?_
  obtain ⟨z1, e_z1⟩ : ∃ z, z = (p1 &&& (3 : Int32)) := ⟨_, rfl⟩
  rw [← e_z1]
  by_cases hz_z1 : z1 = 0
  · subst hz_z1
    refine Wlk.iloadN (pc' := 4) (v := p2) at_3 rfl rfl ?_
    refine Wlk.iloadN (pc' := 5) (v := p3) at_4 rfl rfl ?_
    refine Wlk.iloadN (pc' := 6) (v := p4) at_5 rfl rfl ?_
    refine Wlk.callSw (pc' := 9) (z := (⟨"com/example/strict_crosswalk/strictcrosswalk/description/AspectOtherPinLaw", "str", "(IIII)Ljava/lang/String;"⟩ : MethodName)) (argsL := [(.int (0 : Int32)), (.int p2), (.int p3), (.int p4)]) (st := []) (W := 0) at_6 (hw _ (List.mem_of_getElem? (i := 0) rfl)) (hw _ (List.mem_of_getElem? (i := 1) rfl)) (hw _ (List.mem_of_getElem? (i := 2) rfl)) (hw _ (List.mem_of_getElem? (i := 3) rfl)) (by decide) pd_7 rfl (rm_str0c hw p2 p3 p4 [] [] h0 wS hcw hh_7 (by first | exact hnT | decide)) (by decide) rfl (by decide) (by decide) (by decide) rfl rfl (fun v369 h370 J371 q372 => ?_)
    obtain ⟨s373, c374, cb375, kb376, rfl, le377, g378, K379, n380, n381, n382, n383, n384, rfl⟩ := q372
    show Wlk _ _ _ _ _ _ _ _ _ h370 4 8 9 #[.val (.int p1), .val (.int p2), .val (.int p3), .val (.int p4), .val (.int p5), .unset, .unset, .unset, .unset] [(.ref s373)]
    refine Wlk.astore (pc' := 11) (Ls' := #[.val (.int p1), .val (.int p2), .val (.int p3), .val (.int p4), .val (.int p5), .val (.ref s373), .unset, .unset, .unset]) at_9 rfl rfl rfl rfl ?_
    refine Wlk.iloadN (pc' := 12) (v := p1) at_11 rfl rfl ?_
    refine Wlk.iconst (pc' := 13) (v := (4 : Int32)) at_12 rfl rfl ?_
    refine Wlk.iushr (pc' := 14) at_13 rfl ?_
    refine Wlk.iconst (pc' := 15) (v := (1 : Int32)) at_14 rfl rfl ?_
    refine Wlk.iand (pc' := 16) at_15 rfl ?_
    refine Wlk.if_ (pcT := 23) (pcF := 19) at_16 (by decide) (by decide) rfl (fun (hc385 : ((((p1).toUInt32 >>> ((4 : Int32) &&& 31).toUInt32).toInt32) &&& (1 : Int32)) = (0 : Int32)) => ?_) (fun (hc385 : ¬ (((((p1).toUInt32 >>> ((4 : Int32) &&& 31).toUInt32).toInt32) &&& (1 : Int32)) = (0 : Int32))) => ?_)
    · skip
      refine Wlk.iloadN (pc' := 24) (v := p1) at_23 rfl rfl ?_
      refine Wlk.iconst (pc' := 25) (v := (2 : Int32)) at_24 rfl rfl ?_
      refine Wlk.iushr (pc' := 26) at_25 rfl ?_
      refine Wlk.iconst (pc' := 27) (v := (3 : Int32)) at_26 rfl rfl ?_
      refine Wlk.iand (pc' := 28) at_27 rfl ?_
      obtain ⟨z2, e_z2⟩ : ∃ z, z = ((((p1).toUInt32 >>> ((2 : Int32) &&& 31).toUInt32).toInt32) &&& (3 : Int32)) := ⟨_, rfl⟩
      rw [← e_z2]
      by_cases hz_z2 : z2 = 0
      · subst hz_z2
        refine Wlk.iload (pc' := 30) (v := p5) at_28 rfl rfl ?_
        refine Wlk.iloadN (pc' := 31) (v := p2) at_30 rfl rfl ?_
        refine Wlk.bipush (pc' := 33) (v := (8 : Int32)) at_31 (by decide) rfl ?_
        refine Wlk.iushr (pc' := 34) at_33 rfl ?_
        refine Wlk.iloadN (pc' := 35) (v := p3) at_34 rfl rfl ?_
        refine Wlk.bipush (pc' := 37) (v := (8 : Int32)) at_35 (by decide) rfl ?_
        refine Wlk.iushr (pc' := 38) at_37 rfl ?_
        refine Wlk.callSw (pc' := 41) (z := (⟨"com/example/strict_crosswalk/strictcrosswalk/description/AspectOtherPinLaw", "str", "(IIII)Ljava/lang/String;"⟩ : MethodName)) (argsL := [(.int (0 : Int32)), (.int p5), (.int (((p2).toUInt32 >>> ((8 : Int32) &&& 31).toUInt32).toInt32)), (.int (((p3).toUInt32 >>> ((8 : Int32) &&& 31).toUInt32).toInt32))]) (st := []) (W := 0) at_38 (hw _ (List.mem_of_getElem? (i := 0) rfl)) (hw _ (List.mem_of_getElem? (i := 1) rfl)) (hw _ (List.mem_of_getElem? (i := 2) rfl)) (hw _ (List.mem_of_getElem? (i := 3) rfl)) (by decide) pd_7 rfl (rm_str0w hw p5 (((p2).toUInt32 >>> ((8 : Int32) &&& 31).toUInt32).toInt32) (((p3).toUInt32 >>> ((8 : Int32) &&& 31).toUInt32).toInt32) c374 cb375 kb376 ("" :: []) (("java/lang/String", 7, c374) :: []) h370 n380 n381 n382 n383 (by first | exact hin | simp)) (by decide) rfl (by decide) (by decide) (by decide) rfl rfl (fun v386 h387 J388 q389 => ?_)
        obtain ⟨s390, rfl, le391, g392, K393, n394, n395, n396, n397, n398, rfl⟩ := q389
        show Wlk _ _ _ _ _ _ _ _ _ h387 6 12 41 #[.val (.int p1), .val (.int p2), .val (.int p3), .val (.int p4), .val (.int p5), .val (.ref s373), .unset, .unset, .unset] [(.ref s390)]
        refine Wlk.astore (pc' := 43) (Ls' := #[.val (.int p1), .val (.int p2), .val (.int p3), .val (.int p4), .val (.int p5), .val (.ref s373), .val (.ref s390), .unset, .unset]) at_41 rfl rfl rfl rfl ?_
        refine Wlk.aload (pc' := 45) (v := (.ref s373)) at_43 rfl rfl rfl ?_
        refine Wlk.callS (pc' := 48) (z := (⟨"com/example/strict_crosswalk/strictcrosswalk/description/Aspect", "other", "(Ljava/lang/String;)Lcom/example/strict_crosswalk/strictcrosswalk/description/Aspect;"⟩ : MethodName)) (argsL := [(.ref s373)]) (st := []) (W := 0) at_45 (hw _ (List.mem_of_getElem? (i := 26) rfl)) (hw _ (List.mem_of_getElem? (i := 27) rfl)) (hw _ (List.mem_of_getElem? (i := 28) rfl)) (hw _ (List.mem_of_getElem? (i := 29) rfl)) (by decide) pd_8 rfl (rm_otR hw s373 ot h387 OT) (by decide) rfl (by decide) (by decide) (by decide) rfl rfl (fun v399 h400 J401 q402 => ?_)
        obtain ⟨x403, rfl, le404, g405, K406, n407, n408, n409⟩ := q402
        show Wlk _ _ _ _ _ _ _ _ _ h400 7 14 48 #[.val (.int p1), .val (.int p2), .val (.int p3), .val (.int p4), .val (.int p5), .val (.ref s373), .val (.ref s390), .unset, .unset] [(.ref x403)]
        refine Wlk.astore (pc' := 50) (Ls' := #[.val (.int p1), .val (.int p2), .val (.int p3), .val (.int p4), .val (.int p5), .val (.ref s373), .val (.ref s390), .val (.ref x403), .unset]) at_48 rfl rfl rfl rfl ?_
        refine Wlk.aload (pc' := 52) (v := (.ref s390)) at_50 rfl rfl rfl ?_
        refine Wlk.callS (pc' := 55) (z := (⟨"com/example/strict_crosswalk/strictcrosswalk/description/Aspect", "other", "(Ljava/lang/String;)Lcom/example/strict_crosswalk/strictcrosswalk/description/Aspect;"⟩ : MethodName)) (argsL := [(.ref s390)]) (st := []) (W := 0) at_52 (hw _ (List.mem_of_getElem? (i := 26) rfl)) (hw _ (List.mem_of_getElem? (i := 27) rfl)) (hw _ (List.mem_of_getElem? (i := 28) rfl)) (hw _ (List.mem_of_getElem? (i := 29) rfl)) (by decide) pd_8 rfl (rm_otR hw s390 ot h400 OT) (by decide) rfl (by decide) (by decide) (by decide) rfl rfl (fun v410 h411 J412 q413 => ?_)
        obtain ⟨x414, rfl, le415, g416, K417, n418, n419, n420⟩ := q413
        show Wlk _ _ _ _ _ _ _ _ _ h411 8 16 55 #[.val (.int p1), .val (.int p2), .val (.int p3), .val (.int p4), .val (.int p5), .val (.ref s373), .val (.ref s390), .val (.ref x403), .unset] [(.ref x414)]
        refine Wlk.astore (pc' := 57) (Ls' := #[.val (.int p1), .val (.int p2), .val (.int p3), .val (.int p4), .val (.int p5), .val (.ref s373), .val (.ref s390), .val (.ref x403), .val (.ref x414)]) at_55 rfl rfl rfl rfl ?_
        refine Wlk.aload (pc' := 59) (v := (.ref x403)) at_57 rfl rfl rfl ?_
        have c421 := (n408.keep K417 nin0)
        have c426 := (n407.keep K417)
        refine Wlk.callV (pc' := 62) (a := x403) (x := (⟨"com/example/strict_crosswalk/strictcrosswalk/description/Aspect", "getPart", "()Lcom/example/strict_crosswalk/strictcrosswalk/description/Aspect$Part;"⟩ : MethodName)) (C := "com/example/strict_crosswalk/strictcrosswalk/description/Aspect") (z := (⟨"com/example/strict_crosswalk/strictcrosswalk/description/Aspect", "getPart", "()Lcom/example/strict_crosswalk/strictcrosswalk/description/Aspect$Part;"⟩ : MethodName)) (argsL := []) (st := []) (W := 0) at_59 (hw _ (List.mem_of_getElem? (i := 43) rfl)) (hw _ (List.mem_of_getElem? (i := 44) rfl)) (fun s q => notFace_of_selects (args := #[]) (mvT q (hw _ (List.mem_of_getElem? (i := 46) rfl)))) (hw _ (List.mem_of_getElem? (i := 46) rfl)) (hw _ (List.mem_of_getElem? (i := 45) rfl)) c426 (hw _ (List.mem_of_getElem? (i := 28) rfl)) (hw _ (List.mem_of_getElem? (i := 47) rfl)) (by decide) pd_9 rfl (rm_gp hw x403 ot h411 c421) (by decide) rfl (by decide) (by decide) (by decide) rfl rfl (fun v422 h423 J424 q425 => ?_)
        obtain ⟨rfl, rfl⟩ := q425
        show Wlk _ _ _ _ _ _ _ _ _ h411 8 16 62 #[.val (.int p1), .val (.int p2), .val (.int p3), .val (.int p4), .val (.int p5), .val (.ref s373), .val (.ref s390), .val (.ref x403), .val (.ref x414)] [(.ref ot)]
        refine Wlk.getS (pc' := 65) (v := (.ref ot)) at_62 (hw _ (List.mem_of_getElem? (i := 48) rfl)) Via.refl OT rfl ?_
        refine Wlk.acmp (pc' := 68) (same := true) at_65 rfl rfl (decide_eq_true rfl) (by decide) (by decide) ?_
        refine Wlk.aload (pc' := 70) (v := (.ref x414)) at_68 rfl rfl rfl ?_
        refine Wlk.callV (pc' := 73) (a := x414) (x := (⟨"com/example/strict_crosswalk/strictcrosswalk/description/Aspect", "getPart", "()Lcom/example/strict_crosswalk/strictcrosswalk/description/Aspect$Part;"⟩ : MethodName)) (C := "com/example/strict_crosswalk/strictcrosswalk/description/Aspect") (z := (⟨"com/example/strict_crosswalk/strictcrosswalk/description/Aspect", "getPart", "()Lcom/example/strict_crosswalk/strictcrosswalk/description/Aspect$Part;"⟩ : MethodName)) (argsL := []) (st := []) (W := 0) at_70 (hw _ (List.mem_of_getElem? (i := 43) rfl)) (hw _ (List.mem_of_getElem? (i := 44) rfl)) (fun s q => notFace_of_selects (args := #[]) (mvT q (hw _ (List.mem_of_getElem? (i := 46) rfl)))) (hw _ (List.mem_of_getElem? (i := 46) rfl)) (hw _ (List.mem_of_getElem? (i := 45) rfl)) n418 (hw _ (List.mem_of_getElem? (i := 28) rfl)) (hw _ (List.mem_of_getElem? (i := 47) rfl)) (by decide) pd_9 rfl (rm_gp hw x414 ot h411 n419) (by decide) rfl (by decide) (by decide) (by decide) rfl rfl (fun v427 h428 J429 q430 => ?_)
        obtain ⟨rfl, rfl⟩ := q430
        show Wlk _ _ _ _ _ _ _ _ _ h411 8 16 73 #[.val (.int p1), .val (.int p2), .val (.int p3), .val (.int p4), .val (.int p5), .val (.ref s373), .val (.ref s390), .val (.ref x403), .val (.ref x414)] [(.ref ot)]
        refine Wlk.getS (pc' := 76) (v := (.ref ot)) at_73 (hw _ (List.mem_of_getElem? (i := 48) rfl)) Via.refl OT rfl ?_
        refine Wlk.acmp (pc' := 79) (same := true) at_76 rfl rfl (decide_eq_true rfl) (by decide) (by decide) ?_
        refine Wlk.aload (pc' := 81) (v := (.ref s373)) at_79 rfl rfl rfl ?_
        refine Wlk.aload (pc' := 83) (v := (.ref x403)) at_81 rfl rfl rfl ?_
        have c431 := (n409.keep K417 nin0)
        refine Wlk.callV (pc' := 86) (a := x403) (x := (⟨"com/example/strict_crosswalk/strictcrosswalk/description/Aspect", "getName", "()Ljava/lang/String;"⟩ : MethodName)) (C := "com/example/strict_crosswalk/strictcrosswalk/description/Aspect") (z := (⟨"com/example/strict_crosswalk/strictcrosswalk/description/Aspect", "getName", "()Ljava/lang/String;"⟩ : MethodName)) (argsL := []) (st := [(.ref s373)]) (W := 1) at_83 (hw _ (List.mem_of_getElem? (i := 49) rfl)) (hw _ (List.mem_of_getElem? (i := 50) rfl)) (fun s q => notFace_of_selects (args := #[]) (mvT q (hw _ (List.mem_of_getElem? (i := 52) rfl)))) (hw _ (List.mem_of_getElem? (i := 52) rfl)) (hw _ (List.mem_of_getElem? (i := 51) rfl)) c426 (hw _ (List.mem_of_getElem? (i := 28) rfl)) (hw _ (List.mem_of_getElem? (i := 53) rfl)) (by decide) pd_10 rfl (rm_gnR hw x403 s373 h411 c431) (by decide) rfl (by decide) (by decide) (by decide) rfl rfl (fun v432 h433 J434 q435 => ?_)
        obtain ⟨rfl, rfl⟩ := q435
        show Wlk _ _ _ _ _ _ _ _ _ h411 8 16 86 #[.val (.int p1), .val (.int p2), .val (.int p3), .val (.int p4), .val (.int p5), .val (.ref s373), .val (.ref s390), .val (.ref x403), .val (.ref x414)] [(.ref s373), (.ref s373)]
        have c436 := (((n384.keep K393).keep K406).keep K417)
        refine Wlk.callS (pc' := 89) (z := (⟨"com/example/strict_crosswalk/strictcrosswalk/description/AspectOtherPinLaw", "sameName", "(Ljava/lang/String;Ljava/lang/String;)Z"⟩ : MethodName)) (argsL := [(.ref s373), (.ref s373)]) (st := []) (W := 0) at_86 (hw _ (List.mem_of_getElem? (i := 54) rfl)) (hw _ (List.mem_of_getElem? (i := 55) rfl)) (hw _ (List.mem_of_getElem? (i := 2) rfl)) (hw _ (List.mem_of_getElem? (i := 56) rfl)) (by decide) pd_11 rfl (rm_snR hw s373 h411 c436) (by decide) rfl (by decide) (by decide) (by decide) rfl rfl (fun v437 h438 J439 q440 => ?_)
        obtain ⟨rfl, rfl⟩ := q440
        show Wlk _ _ _ _ _ _ _ _ _ h411 8 16 89 #[.val (.int p1), .val (.int p2), .val (.int p3), .val (.int p4), .val (.int p5), .val (.ref s373), .val (.ref s390), .val (.ref x403), .val (.ref x414)] [(.int (1 : Int32))]
        refine Wlk.ifF (pc' := 92) at_89 (show ¬ ((1 : Int32) = (0 : Int32)) from by decide) rfl ?_
        refine Wlk.aload (pc' := 94) (v := (.ref s390)) at_92 rfl rfl rfl ?_
        refine Wlk.aload (pc' := 96) (v := (.ref x414)) at_94 rfl rfl rfl ?_
        refine Wlk.callV (pc' := 99) (a := x414) (x := (⟨"com/example/strict_crosswalk/strictcrosswalk/description/Aspect", "getName", "()Ljava/lang/String;"⟩ : MethodName)) (C := "com/example/strict_crosswalk/strictcrosswalk/description/Aspect") (z := (⟨"com/example/strict_crosswalk/strictcrosswalk/description/Aspect", "getName", "()Ljava/lang/String;"⟩ : MethodName)) (argsL := []) (st := [(.ref s390)]) (W := 1) at_96 (hw _ (List.mem_of_getElem? (i := 49) rfl)) (hw _ (List.mem_of_getElem? (i := 50) rfl)) (fun s q => notFace_of_selects (args := #[]) (mvT q (hw _ (List.mem_of_getElem? (i := 52) rfl)))) (hw _ (List.mem_of_getElem? (i := 52) rfl)) (hw _ (List.mem_of_getElem? (i := 51) rfl)) n418 (hw _ (List.mem_of_getElem? (i := 28) rfl)) (hw _ (List.mem_of_getElem? (i := 53) rfl)) (by decide) pd_10 rfl (rm_gnR hw x414 s390 h411 n420) (by decide) rfl (by decide) (by decide) (by decide) rfl rfl (fun v441 h442 J443 q444 => ?_)
        obtain ⟨rfl, rfl⟩ := q444
        show Wlk _ _ _ _ _ _ _ _ _ h411 8 16 99 #[.val (.int p1), .val (.int p2), .val (.int p3), .val (.int p4), .val (.int p5), .val (.ref s373), .val (.ref s390), .val (.ref x403), .val (.ref x414)] [(.ref s390), (.ref s390)]
        have c445 := ((n398.keep K406).keep K417)
        refine Wlk.callS (pc' := 102) (z := (⟨"com/example/strict_crosswalk/strictcrosswalk/description/AspectOtherPinLaw", "sameName", "(Ljava/lang/String;Ljava/lang/String;)Z"⟩ : MethodName)) (argsL := [(.ref s390), (.ref s390)]) (st := []) (W := 0) at_99 (hw _ (List.mem_of_getElem? (i := 54) rfl)) (hw _ (List.mem_of_getElem? (i := 55) rfl)) (hw _ (List.mem_of_getElem? (i := 2) rfl)) (hw _ (List.mem_of_getElem? (i := 56) rfl)) (by decide) pd_11 rfl (rm_snR hw s390 h411 c445) (by decide) rfl (by decide) (by decide) (by decide) rfl rfl (fun v446 h447 J448 q449 => ?_)
        obtain ⟨rfl, rfl⟩ := q449
        show Wlk _ _ _ _ _ _ _ _ _ h411 8 16 102 #[.val (.int p1), .val (.int p2), .val (.int p3), .val (.int p4), .val (.int p5), .val (.ref s373), .val (.ref s390), .val (.ref x403), .val (.ref x414)] [(.int (1 : Int32))]
        refine Wlk.ifF (pc' := 105) at_102 (show ¬ ((1 : Int32) = (0 : Int32)) from by decide) rfl ?_
        refine Wlk.iconst (pc' := 106) (v := (1 : Int32)) at_105 rfl rfl ?_
        refine Wlk.goto (pc' := 110) at_106 (by decide) (by decide) ?_
        refine Wlk.ireturnN (t := .boolean) at_110 rfl (by simp) (by decide) (by decide) ?_
        exact rfl
      · have hz := hz_z2
        refine Wlk.iload (pc' := 30) (v := p5) at_28 rfl rfl ?_
        refine Wlk.iloadN (pc' := 31) (v := p2) at_30 rfl rfl ?_
        refine Wlk.bipush (pc' := 33) (v := (8 : Int32)) at_31 (by decide) rfl ?_
        refine Wlk.iushr (pc' := 34) at_33 rfl ?_
        refine Wlk.iloadN (pc' := 35) (v := p3) at_34 rfl rfl ?_
        refine Wlk.bipush (pc' := 37) (v := (8 : Int32)) at_35 (by decide) rfl ?_
        refine Wlk.iushr (pc' := 38) at_37 rfl ?_
        refine Wlk.callS (pc' := 41) (z := (⟨"com/example/strict_crosswalk/strictcrosswalk/description/AspectOtherPinLaw", "str", "(IIII)Ljava/lang/String;"⟩ : MethodName)) (argsL := [(.int z2), (.int p5), (.int (((p2).toUInt32 >>> ((8 : Int32) &&& 31).toUInt32).toInt32)), (.int (((p3).toUInt32 >>> ((8 : Int32) &&& 31).toUInt32).toInt32))]) (st := []) (W := 0) at_38 (hw _ (List.mem_of_getElem? (i := 0) rfl)) (hw _ (List.mem_of_getElem? (i := 1) rfl)) (hw _ (List.mem_of_getElem? (i := 2) rfl)) (hw _ (List.mem_of_getElem? (i := 3) rfl)) (by decide) pd_7 rfl (rm_strN hw z2 p5 (((p2).toUInt32 >>> ((8 : Int32) &&& 31).toUInt32).toInt32) (((p3).toUInt32 >>> ((8 : Int32) &&& 31).toUInt32).toInt32) zc h370 O2 P3 hz) (by decide) rfl (by decide) (by decide) (by decide) rfl rfl (fun v450 h451 J452 q453 => ?_)
        obtain ⟨s454, rfl, le455, g456, K457, n458⟩ := q453
        show Wlk _ _ _ _ _ _ _ _ _ h451 7 18 41 #[.val (.int p1), .val (.int p2), .val (.int p3), .val (.int p4), .val (.int p5), .val (.ref s373), .unset, .unset, .unset] [(.ref s454)]
        refine Wlk.astore (pc' := 43) (Ls' := #[.val (.int p1), .val (.int p2), .val (.int p3), .val (.int p4), .val (.int p5), .val (.ref s373), .val (.ref s454), .unset, .unset]) at_41 rfl rfl rfl rfl ?_
        refine Wlk.aload (pc' := 45) (v := (.ref s373)) at_43 rfl rfl rfl ?_
        refine Wlk.callS (pc' := 48) (z := (⟨"com/example/strict_crosswalk/strictcrosswalk/description/Aspect", "other", "(Ljava/lang/String;)Lcom/example/strict_crosswalk/strictcrosswalk/description/Aspect;"⟩ : MethodName)) (argsL := [(.ref s373)]) (st := []) (W := 0) at_45 (hw _ (List.mem_of_getElem? (i := 26) rfl)) (hw _ (List.mem_of_getElem? (i := 27) rfl)) (hw _ (List.mem_of_getElem? (i := 28) rfl)) (hw _ (List.mem_of_getElem? (i := 29) rfl)) (by decide) pd_8 rfl (rm_otR hw s373 ot h451 OT) (by decide) rfl (by decide) (by decide) (by decide) rfl rfl (fun v459 h460 J461 q462 => ?_)
        obtain ⟨x463, rfl, le464, g465, K466, n467, n468, n469⟩ := q462
        show Wlk _ _ _ _ _ _ _ _ _ h460 8 20 48 #[.val (.int p1), .val (.int p2), .val (.int p3), .val (.int p4), .val (.int p5), .val (.ref s373), .val (.ref s454), .unset, .unset] [(.ref x463)]
        refine Wlk.astore (pc' := 50) (Ls' := #[.val (.int p1), .val (.int p2), .val (.int p3), .val (.int p4), .val (.int p5), .val (.ref s373), .val (.ref s454), .val (.ref x463), .unset]) at_48 rfl rfl rfl rfl ?_
        refine Wlk.aload (pc' := 52) (v := (.ref s454)) at_50 rfl rfl rfl ?_
        refine Wlk.callS (pc' := 55) (z := (⟨"com/example/strict_crosswalk/strictcrosswalk/description/Aspect", "other", "(Ljava/lang/String;)Lcom/example/strict_crosswalk/strictcrosswalk/description/Aspect;"⟩ : MethodName)) (argsL := [(.ref s454)]) (st := []) (W := 0) at_52 (hw _ (List.mem_of_getElem? (i := 26) rfl)) (hw _ (List.mem_of_getElem? (i := 27) rfl)) (hw _ (List.mem_of_getElem? (i := 28) rfl)) (hw _ (List.mem_of_getElem? (i := 29) rfl)) (by decide) pd_8 rfl (rm_otR hw s454 ot h460 OT) (by decide) rfl (by decide) (by decide) (by decide) rfl rfl (fun v470 h471 J472 q473 => ?_)
        obtain ⟨x474, rfl, le475, g476, K477, n478, n479, n480⟩ := q473
        show Wlk _ _ _ _ _ _ _ _ _ h471 9 22 55 #[.val (.int p1), .val (.int p2), .val (.int p3), .val (.int p4), .val (.int p5), .val (.ref s373), .val (.ref s454), .val (.ref x463), .unset] [(.ref x474)]
        refine Wlk.astore (pc' := 57) (Ls' := #[.val (.int p1), .val (.int p2), .val (.int p3), .val (.int p4), .val (.int p5), .val (.ref s373), .val (.ref s454), .val (.ref x463), .val (.ref x474)]) at_55 rfl rfl rfl rfl ?_
        refine Wlk.aload (pc' := 59) (v := (.ref x463)) at_57 rfl rfl rfl ?_
        have c481 := (n468.keep K477 nin0)
        have c486 := (n467.keep K477)
        refine Wlk.callV (pc' := 62) (a := x463) (x := (⟨"com/example/strict_crosswalk/strictcrosswalk/description/Aspect", "getPart", "()Lcom/example/strict_crosswalk/strictcrosswalk/description/Aspect$Part;"⟩ : MethodName)) (C := "com/example/strict_crosswalk/strictcrosswalk/description/Aspect") (z := (⟨"com/example/strict_crosswalk/strictcrosswalk/description/Aspect", "getPart", "()Lcom/example/strict_crosswalk/strictcrosswalk/description/Aspect$Part;"⟩ : MethodName)) (argsL := []) (st := []) (W := 0) at_59 (hw _ (List.mem_of_getElem? (i := 43) rfl)) (hw _ (List.mem_of_getElem? (i := 44) rfl)) (fun s q => notFace_of_selects (args := #[]) (mvT q (hw _ (List.mem_of_getElem? (i := 46) rfl)))) (hw _ (List.mem_of_getElem? (i := 46) rfl)) (hw _ (List.mem_of_getElem? (i := 45) rfl)) c486 (hw _ (List.mem_of_getElem? (i := 28) rfl)) (hw _ (List.mem_of_getElem? (i := 47) rfl)) (by decide) pd_9 rfl (rm_gp hw x463 ot h471 c481) (by decide) rfl (by decide) (by decide) (by decide) rfl rfl (fun v482 h483 J484 q485 => ?_)
        obtain ⟨rfl, rfl⟩ := q485
        show Wlk _ _ _ _ _ _ _ _ _ h471 9 22 62 #[.val (.int p1), .val (.int p2), .val (.int p3), .val (.int p4), .val (.int p5), .val (.ref s373), .val (.ref s454), .val (.ref x463), .val (.ref x474)] [(.ref ot)]
        refine Wlk.getS (pc' := 65) (v := (.ref ot)) at_62 (hw _ (List.mem_of_getElem? (i := 48) rfl)) Via.refl OT rfl ?_
        refine Wlk.acmp (pc' := 68) (same := true) at_65 rfl rfl (decide_eq_true rfl) (by decide) (by decide) ?_
        refine Wlk.aload (pc' := 70) (v := (.ref x474)) at_68 rfl rfl rfl ?_
        refine Wlk.callV (pc' := 73) (a := x474) (x := (⟨"com/example/strict_crosswalk/strictcrosswalk/description/Aspect", "getPart", "()Lcom/example/strict_crosswalk/strictcrosswalk/description/Aspect$Part;"⟩ : MethodName)) (C := "com/example/strict_crosswalk/strictcrosswalk/description/Aspect") (z := (⟨"com/example/strict_crosswalk/strictcrosswalk/description/Aspect", "getPart", "()Lcom/example/strict_crosswalk/strictcrosswalk/description/Aspect$Part;"⟩ : MethodName)) (argsL := []) (st := []) (W := 0) at_70 (hw _ (List.mem_of_getElem? (i := 43) rfl)) (hw _ (List.mem_of_getElem? (i := 44) rfl)) (fun s q => notFace_of_selects (args := #[]) (mvT q (hw _ (List.mem_of_getElem? (i := 46) rfl)))) (hw _ (List.mem_of_getElem? (i := 46) rfl)) (hw _ (List.mem_of_getElem? (i := 45) rfl)) n478 (hw _ (List.mem_of_getElem? (i := 28) rfl)) (hw _ (List.mem_of_getElem? (i := 47) rfl)) (by decide) pd_9 rfl (rm_gp hw x474 ot h471 n479) (by decide) rfl (by decide) (by decide) (by decide) rfl rfl (fun v487 h488 J489 q490 => ?_)
        obtain ⟨rfl, rfl⟩ := q490
        show Wlk _ _ _ _ _ _ _ _ _ h471 9 22 73 #[.val (.int p1), .val (.int p2), .val (.int p3), .val (.int p4), .val (.int p5), .val (.ref s373), .val (.ref s454), .val (.ref x463), .val (.ref x474)] [(.ref ot)]
        refine Wlk.getS (pc' := 76) (v := (.ref ot)) at_73 (hw _ (List.mem_of_getElem? (i := 48) rfl)) Via.refl OT rfl ?_
        refine Wlk.acmp (pc' := 79) (same := true) at_76 rfl rfl (decide_eq_true rfl) (by decide) (by decide) ?_
        refine Wlk.aload (pc' := 81) (v := (.ref s373)) at_79 rfl rfl rfl ?_
        refine Wlk.aload (pc' := 83) (v := (.ref x463)) at_81 rfl rfl rfl ?_
        have c491 := (n469.keep K477 nin0)
        refine Wlk.callV (pc' := 86) (a := x463) (x := (⟨"com/example/strict_crosswalk/strictcrosswalk/description/Aspect", "getName", "()Ljava/lang/String;"⟩ : MethodName)) (C := "com/example/strict_crosswalk/strictcrosswalk/description/Aspect") (z := (⟨"com/example/strict_crosswalk/strictcrosswalk/description/Aspect", "getName", "()Ljava/lang/String;"⟩ : MethodName)) (argsL := []) (st := [(.ref s373)]) (W := 1) at_83 (hw _ (List.mem_of_getElem? (i := 49) rfl)) (hw _ (List.mem_of_getElem? (i := 50) rfl)) (fun s q => notFace_of_selects (args := #[]) (mvT q (hw _ (List.mem_of_getElem? (i := 52) rfl)))) (hw _ (List.mem_of_getElem? (i := 52) rfl)) (hw _ (List.mem_of_getElem? (i := 51) rfl)) c486 (hw _ (List.mem_of_getElem? (i := 28) rfl)) (hw _ (List.mem_of_getElem? (i := 53) rfl)) (by decide) pd_10 rfl (rm_gnR hw x463 s373 h471 c491) (by decide) rfl (by decide) (by decide) (by decide) rfl rfl (fun v492 h493 J494 q495 => ?_)
        obtain ⟨rfl, rfl⟩ := q495
        show Wlk _ _ _ _ _ _ _ _ _ h471 9 22 86 #[.val (.int p1), .val (.int p2), .val (.int p3), .val (.int p4), .val (.int p5), .val (.ref s373), .val (.ref s454), .val (.ref x463), .val (.ref x474)] [(.ref s373), (.ref s373)]
        have c496 := (((n384.keep K457).keep K466).keep K477)
        refine Wlk.callS (pc' := 89) (z := (⟨"com/example/strict_crosswalk/strictcrosswalk/description/AspectOtherPinLaw", "sameName", "(Ljava/lang/String;Ljava/lang/String;)Z"⟩ : MethodName)) (argsL := [(.ref s373), (.ref s373)]) (st := []) (W := 0) at_86 (hw _ (List.mem_of_getElem? (i := 54) rfl)) (hw _ (List.mem_of_getElem? (i := 55) rfl)) (hw _ (List.mem_of_getElem? (i := 2) rfl)) (hw _ (List.mem_of_getElem? (i := 56) rfl)) (by decide) pd_11 rfl (rm_snR hw s373 h471 c496) (by decide) rfl (by decide) (by decide) (by decide) rfl rfl (fun v497 h498 J499 q500 => ?_)
        obtain ⟨rfl, rfl⟩ := q500
        show Wlk _ _ _ _ _ _ _ _ _ h471 9 22 89 #[.val (.int p1), .val (.int p2), .val (.int p3), .val (.int p4), .val (.int p5), .val (.ref s373), .val (.ref s454), .val (.ref x463), .val (.ref x474)] [(.int (1 : Int32))]
        refine Wlk.ifF (pc' := 92) at_89 (show ¬ ((1 : Int32) = (0 : Int32)) from by decide) rfl ?_
        refine Wlk.aload (pc' := 94) (v := (.ref s454)) at_92 rfl rfl rfl ?_
        refine Wlk.aload (pc' := 96) (v := (.ref x474)) at_94 rfl rfl rfl ?_
        refine Wlk.callV (pc' := 99) (a := x474) (x := (⟨"com/example/strict_crosswalk/strictcrosswalk/description/Aspect", "getName", "()Ljava/lang/String;"⟩ : MethodName)) (C := "com/example/strict_crosswalk/strictcrosswalk/description/Aspect") (z := (⟨"com/example/strict_crosswalk/strictcrosswalk/description/Aspect", "getName", "()Ljava/lang/String;"⟩ : MethodName)) (argsL := []) (st := [(.ref s454)]) (W := 1) at_96 (hw _ (List.mem_of_getElem? (i := 49) rfl)) (hw _ (List.mem_of_getElem? (i := 50) rfl)) (fun s q => notFace_of_selects (args := #[]) (mvT q (hw _ (List.mem_of_getElem? (i := 52) rfl)))) (hw _ (List.mem_of_getElem? (i := 52) rfl)) (hw _ (List.mem_of_getElem? (i := 51) rfl)) n478 (hw _ (List.mem_of_getElem? (i := 28) rfl)) (hw _ (List.mem_of_getElem? (i := 53) rfl)) (by decide) pd_10 rfl (rm_gnR hw x474 s454 h471 n480) (by decide) rfl (by decide) (by decide) (by decide) rfl rfl (fun v501 h502 J503 q504 => ?_)
        obtain ⟨rfl, rfl⟩ := q504
        show Wlk _ _ _ _ _ _ _ _ _ h471 9 22 99 #[.val (.int p1), .val (.int p2), .val (.int p3), .val (.int p4), .val (.int p5), .val (.ref s373), .val (.ref s454), .val (.ref x463), .val (.ref x474)] [(.ref s454), (.ref s454)]
        have c505 := ((n458.keep K466).keep K477)
        refine Wlk.callS (pc' := 102) (z := (⟨"com/example/strict_crosswalk/strictcrosswalk/description/AspectOtherPinLaw", "sameName", "(Ljava/lang/String;Ljava/lang/String;)Z"⟩ : MethodName)) (argsL := [(.ref s454), (.ref s454)]) (st := []) (W := 0) at_99 (hw _ (List.mem_of_getElem? (i := 54) rfl)) (hw _ (List.mem_of_getElem? (i := 55) rfl)) (hw _ (List.mem_of_getElem? (i := 2) rfl)) (hw _ (List.mem_of_getElem? (i := 56) rfl)) (by decide) pd_11 rfl (rm_snR hw s454 h471 c505) (by decide) rfl (by decide) (by decide) (by decide) rfl rfl (fun v506 h507 J508 q509 => ?_)
        obtain ⟨rfl, rfl⟩ := q509
        show Wlk _ _ _ _ _ _ _ _ _ h471 9 22 102 #[.val (.int p1), .val (.int p2), .val (.int p3), .val (.int p4), .val (.int p5), .val (.ref s373), .val (.ref s454), .val (.ref x463), .val (.ref x474)] [(.int (1 : Int32))]
        refine Wlk.ifF (pc' := 105) at_102 (show ¬ ((1 : Int32) = (0 : Int32)) from by decide) rfl ?_
        refine Wlk.iconst (pc' := 106) (v := (1 : Int32)) at_105 rfl rfl ?_
        refine Wlk.goto (pc' := 110) at_106 (by decide) (by decide) ?_
        refine Wlk.ireturnN (t := .boolean) at_110 rfl (by simp) (by decide) (by decide) ?_
        exact rfl
    · skip
      refine Wlk.aconstNull (pc' := 20) at_19 rfl ?_
      refine Wlk.goto (pc' := 41) at_20 (by decide) (by decide) ?_
      refine Wlk.astore (pc' := 43) (Ls' := #[.val (.int p1), .val (.int p2), .val (.int p3), .val (.int p4), .val (.int p5), .val (.ref s373), .val .null, .unset, .unset]) at_41 rfl rfl rfl rfl ?_
      refine Wlk.aload (pc' := 45) (v := (.ref s373)) at_43 rfl rfl rfl ?_
      refine Wlk.callS (pc' := 48) (z := (⟨"com/example/strict_crosswalk/strictcrosswalk/description/Aspect", "other", "(Ljava/lang/String;)Lcom/example/strict_crosswalk/strictcrosswalk/description/Aspect;"⟩ : MethodName)) (argsL := [(.ref s373)]) (st := []) (W := 0) at_45 (hw _ (List.mem_of_getElem? (i := 26) rfl)) (hw _ (List.mem_of_getElem? (i := 27) rfl)) (hw _ (List.mem_of_getElem? (i := 28) rfl)) (hw _ (List.mem_of_getElem? (i := 29) rfl)) (by decide) pd_8 rfl (rm_otR hw s373 ot h370 OT) (by decide) rfl (by decide) (by decide) (by decide) rfl rfl (fun v510 h511 J512 q513 => ?_)
      obtain ⟨x514, rfl, le515, g516, K517, n518, n519, n520⟩ := q513
      show Wlk _ _ _ _ _ _ _ _ _ h511 5 10 48 #[.val (.int p1), .val (.int p2), .val (.int p3), .val (.int p4), .val (.int p5), .val (.ref s373), .val .null, .unset, .unset] [(.ref x514)]
      refine Wlk.astore (pc' := 50) (Ls' := #[.val (.int p1), .val (.int p2), .val (.int p3), .val (.int p4), .val (.int p5), .val (.ref s373), .val .null, .val (.ref x514), .unset]) at_48 rfl rfl rfl rfl ?_
      refine Wlk.aload (pc' := 52) (v := .null) at_50 rfl rfl rfl ?_
      refine Wlk.callS (pc' := 55) (z := (⟨"com/example/strict_crosswalk/strictcrosswalk/description/Aspect", "other", "(Ljava/lang/String;)Lcom/example/strict_crosswalk/strictcrosswalk/description/Aspect;"⟩ : MethodName)) (argsL := [.null]) (st := []) (W := 0) at_52 (hw _ (List.mem_of_getElem? (i := 26) rfl)) (hw _ (List.mem_of_getElem? (i := 27) rfl)) (hw _ (List.mem_of_getElem? (i := 28) rfl)) (hw _ (List.mem_of_getElem? (i := 29) rfl)) (by decide) pd_8 rfl (rm_otN hw ot h511 OT) (by decide) rfl (by decide) (by decide) (by decide) rfl rfl (fun v521 h522 J523 q524 => ?_)
      obtain ⟨x525, rfl, le526, g527, K528, n529, n530, n531⟩ := q524
      show Wlk _ _ _ _ _ _ _ _ _ h522 6 12 55 #[.val (.int p1), .val (.int p2), .val (.int p3), .val (.int p4), .val (.int p5), .val (.ref s373), .val .null, .val (.ref x514), .unset] [(.ref x525)]
      refine Wlk.astore (pc' := 57) (Ls' := #[.val (.int p1), .val (.int p2), .val (.int p3), .val (.int p4), .val (.int p5), .val (.ref s373), .val .null, .val (.ref x514), .val (.ref x525)]) at_55 rfl rfl rfl rfl ?_
      refine Wlk.aload (pc' := 59) (v := (.ref x514)) at_57 rfl rfl rfl ?_
      have c532 := (n519.keep K528 nin0)
      have c537 := (n518.keep K528)
      refine Wlk.callV (pc' := 62) (a := x514) (x := (⟨"com/example/strict_crosswalk/strictcrosswalk/description/Aspect", "getPart", "()Lcom/example/strict_crosswalk/strictcrosswalk/description/Aspect$Part;"⟩ : MethodName)) (C := "com/example/strict_crosswalk/strictcrosswalk/description/Aspect") (z := (⟨"com/example/strict_crosswalk/strictcrosswalk/description/Aspect", "getPart", "()Lcom/example/strict_crosswalk/strictcrosswalk/description/Aspect$Part;"⟩ : MethodName)) (argsL := []) (st := []) (W := 0) at_59 (hw _ (List.mem_of_getElem? (i := 43) rfl)) (hw _ (List.mem_of_getElem? (i := 44) rfl)) (fun s q => notFace_of_selects (args := #[]) (mvT q (hw _ (List.mem_of_getElem? (i := 46) rfl)))) (hw _ (List.mem_of_getElem? (i := 46) rfl)) (hw _ (List.mem_of_getElem? (i := 45) rfl)) c537 (hw _ (List.mem_of_getElem? (i := 28) rfl)) (hw _ (List.mem_of_getElem? (i := 47) rfl)) (by decide) pd_9 rfl (rm_gp hw x514 ot h522 c532) (by decide) rfl (by decide) (by decide) (by decide) rfl rfl (fun v533 h534 J535 q536 => ?_)
      obtain ⟨rfl, rfl⟩ := q536
      show Wlk _ _ _ _ _ _ _ _ _ h522 6 12 62 #[.val (.int p1), .val (.int p2), .val (.int p3), .val (.int p4), .val (.int p5), .val (.ref s373), .val .null, .val (.ref x514), .val (.ref x525)] [(.ref ot)]
      refine Wlk.getS (pc' := 65) (v := (.ref ot)) at_62 (hw _ (List.mem_of_getElem? (i := 48) rfl)) Via.refl OT rfl ?_
      refine Wlk.acmp (pc' := 68) (same := true) at_65 rfl rfl (decide_eq_true rfl) (by decide) (by decide) ?_
      refine Wlk.aload (pc' := 70) (v := (.ref x525)) at_68 rfl rfl rfl ?_
      refine Wlk.callV (pc' := 73) (a := x525) (x := (⟨"com/example/strict_crosswalk/strictcrosswalk/description/Aspect", "getPart", "()Lcom/example/strict_crosswalk/strictcrosswalk/description/Aspect$Part;"⟩ : MethodName)) (C := "com/example/strict_crosswalk/strictcrosswalk/description/Aspect") (z := (⟨"com/example/strict_crosswalk/strictcrosswalk/description/Aspect", "getPart", "()Lcom/example/strict_crosswalk/strictcrosswalk/description/Aspect$Part;"⟩ : MethodName)) (argsL := []) (st := []) (W := 0) at_70 (hw _ (List.mem_of_getElem? (i := 43) rfl)) (hw _ (List.mem_of_getElem? (i := 44) rfl)) (fun s q => notFace_of_selects (args := #[]) (mvT q (hw _ (List.mem_of_getElem? (i := 46) rfl)))) (hw _ (List.mem_of_getElem? (i := 46) rfl)) (hw _ (List.mem_of_getElem? (i := 45) rfl)) n529 (hw _ (List.mem_of_getElem? (i := 28) rfl)) (hw _ (List.mem_of_getElem? (i := 47) rfl)) (by decide) pd_9 rfl (rm_gp hw x525 ot h522 n530) (by decide) rfl (by decide) (by decide) (by decide) rfl rfl (fun v538 h539 J540 q541 => ?_)
      obtain ⟨rfl, rfl⟩ := q541
      show Wlk _ _ _ _ _ _ _ _ _ h522 6 12 73 #[.val (.int p1), .val (.int p2), .val (.int p3), .val (.int p4), .val (.int p5), .val (.ref s373), .val .null, .val (.ref x514), .val (.ref x525)] [(.ref ot)]
      refine Wlk.getS (pc' := 76) (v := (.ref ot)) at_73 (hw _ (List.mem_of_getElem? (i := 48) rfl)) Via.refl OT rfl ?_
      refine Wlk.acmp (pc' := 79) (same := true) at_76 rfl rfl (decide_eq_true rfl) (by decide) (by decide) ?_
      refine Wlk.aload (pc' := 81) (v := (.ref s373)) at_79 rfl rfl rfl ?_
      refine Wlk.aload (pc' := 83) (v := (.ref x514)) at_81 rfl rfl rfl ?_
      have c542 := (n520.keep K528 nin0)
      refine Wlk.callV (pc' := 86) (a := x514) (x := (⟨"com/example/strict_crosswalk/strictcrosswalk/description/Aspect", "getName", "()Ljava/lang/String;"⟩ : MethodName)) (C := "com/example/strict_crosswalk/strictcrosswalk/description/Aspect") (z := (⟨"com/example/strict_crosswalk/strictcrosswalk/description/Aspect", "getName", "()Ljava/lang/String;"⟩ : MethodName)) (argsL := []) (st := [(.ref s373)]) (W := 1) at_83 (hw _ (List.mem_of_getElem? (i := 49) rfl)) (hw _ (List.mem_of_getElem? (i := 50) rfl)) (fun s q => notFace_of_selects (args := #[]) (mvT q (hw _ (List.mem_of_getElem? (i := 52) rfl)))) (hw _ (List.mem_of_getElem? (i := 52) rfl)) (hw _ (List.mem_of_getElem? (i := 51) rfl)) c537 (hw _ (List.mem_of_getElem? (i := 28) rfl)) (hw _ (List.mem_of_getElem? (i := 53) rfl)) (by decide) pd_10 rfl (rm_gnR hw x514 s373 h522 c542) (by decide) rfl (by decide) (by decide) (by decide) rfl rfl (fun v543 h544 J545 q546 => ?_)
      obtain ⟨rfl, rfl⟩ := q546
      show Wlk _ _ _ _ _ _ _ _ _ h522 6 12 86 #[.val (.int p1), .val (.int p2), .val (.int p3), .val (.int p4), .val (.int p5), .val (.ref s373), .val .null, .val (.ref x514), .val (.ref x525)] [(.ref s373), (.ref s373)]
      have c547 := ((n384.keep K517).keep K528)
      refine Wlk.callS (pc' := 89) (z := (⟨"com/example/strict_crosswalk/strictcrosswalk/description/AspectOtherPinLaw", "sameName", "(Ljava/lang/String;Ljava/lang/String;)Z"⟩ : MethodName)) (argsL := [(.ref s373), (.ref s373)]) (st := []) (W := 0) at_86 (hw _ (List.mem_of_getElem? (i := 54) rfl)) (hw _ (List.mem_of_getElem? (i := 55) rfl)) (hw _ (List.mem_of_getElem? (i := 2) rfl)) (hw _ (List.mem_of_getElem? (i := 56) rfl)) (by decide) pd_11 rfl (rm_snR hw s373 h522 c547) (by decide) rfl (by decide) (by decide) (by decide) rfl rfl (fun v548 h549 J550 q551 => ?_)
      obtain ⟨rfl, rfl⟩ := q551
      show Wlk _ _ _ _ _ _ _ _ _ h522 6 12 89 #[.val (.int p1), .val (.int p2), .val (.int p3), .val (.int p4), .val (.int p5), .val (.ref s373), .val .null, .val (.ref x514), .val (.ref x525)] [(.int (1 : Int32))]
      refine Wlk.ifF (pc' := 92) at_89 (show ¬ ((1 : Int32) = (0 : Int32)) from by decide) rfl ?_
      refine Wlk.aload (pc' := 94) (v := .null) at_92 rfl rfl rfl ?_
      refine Wlk.aload (pc' := 96) (v := (.ref x525)) at_94 rfl rfl rfl ?_
      refine Wlk.callV (pc' := 99) (a := x525) (x := (⟨"com/example/strict_crosswalk/strictcrosswalk/description/Aspect", "getName", "()Ljava/lang/String;"⟩ : MethodName)) (C := "com/example/strict_crosswalk/strictcrosswalk/description/Aspect") (z := (⟨"com/example/strict_crosswalk/strictcrosswalk/description/Aspect", "getName", "()Ljava/lang/String;"⟩ : MethodName)) (argsL := []) (st := [.null]) (W := 1) at_96 (hw _ (List.mem_of_getElem? (i := 49) rfl)) (hw _ (List.mem_of_getElem? (i := 50) rfl)) (fun s q => notFace_of_selects (args := #[]) (mvT q (hw _ (List.mem_of_getElem? (i := 52) rfl)))) (hw _ (List.mem_of_getElem? (i := 52) rfl)) (hw _ (List.mem_of_getElem? (i := 51) rfl)) n529 (hw _ (List.mem_of_getElem? (i := 28) rfl)) (hw _ (List.mem_of_getElem? (i := 53) rfl)) (by decide) pd_10 rfl (rm_gnN hw x525 h522 n531) (by decide) rfl (by decide) (by decide) (by decide) rfl rfl (fun v552 h553 J554 q555 => ?_)
      obtain ⟨rfl, rfl⟩ := q555
      show Wlk _ _ _ _ _ _ _ _ _ h522 6 12 99 #[.val (.int p1), .val (.int p2), .val (.int p3), .val (.int p4), .val (.int p5), .val (.ref s373), .val .null, .val (.ref x514), .val (.ref x525)] [.null, .null]
      refine Wlk.callS (pc' := 102) (z := (⟨"com/example/strict_crosswalk/strictcrosswalk/description/AspectOtherPinLaw", "sameName", "(Ljava/lang/String;Ljava/lang/String;)Z"⟩ : MethodName)) (argsL := [.null, .null]) (st := []) (W := 0) at_99 (hw _ (List.mem_of_getElem? (i := 54) rfl)) (hw _ (List.mem_of_getElem? (i := 55) rfl)) (hw _ (List.mem_of_getElem? (i := 2) rfl)) (hw _ (List.mem_of_getElem? (i := 56) rfl)) (by decide) pd_11 rfl (rm_snN hw  h522 ) (by decide) rfl (by decide) (by decide) (by decide) rfl rfl (fun v556 h557 J558 q559 => ?_)
      obtain ⟨rfl, rfl⟩ := q559
      show Wlk _ _ _ _ _ _ _ _ _ h522 6 12 102 #[.val (.int p1), .val (.int p2), .val (.int p3), .val (.int p4), .val (.int p5), .val (.ref s373), .val .null, .val (.ref x514), .val (.ref x525)] [(.int (1 : Int32))]
      refine Wlk.ifF (pc' := 105) at_102 (show ¬ ((1 : Int32) = (0 : Int32)) from by decide) rfl ?_
      refine Wlk.iconst (pc' := 106) (v := (1 : Int32)) at_105 rfl rfl ?_
      refine Wlk.goto (pc' := 110) at_106 (by decide) (by decide) ?_
      refine Wlk.ireturnN (t := .boolean) at_110 rfl (by simp) (by decide) (by decide) ?_
      exact rfl
  · have hz := hz_z1
    refine Wlk.iloadN (pc' := 4) (v := p2) at_3 rfl rfl ?_
    refine Wlk.iloadN (pc' := 5) (v := p3) at_4 rfl rfl ?_
    refine Wlk.iloadN (pc' := 6) (v := p4) at_5 rfl rfl ?_
    refine Wlk.callS (pc' := 9) (z := (⟨"com/example/strict_crosswalk/strictcrosswalk/description/AspectOtherPinLaw", "str", "(IIII)Ljava/lang/String;"⟩ : MethodName)) (argsL := [(.int z1), (.int p2), (.int p3), (.int p4)]) (st := []) (W := 0) at_6 (hw _ (List.mem_of_getElem? (i := 0) rfl)) (hw _ (List.mem_of_getElem? (i := 1) rfl)) (hw _ (List.mem_of_getElem? (i := 2) rfl)) (hw _ (List.mem_of_getElem? (i := 3) rfl)) (by decide) pd_7 rfl (rm_strN hw z1 p2 p3 p4 zc h0 O2 P3 hz) (by decide) rfl (by decide) (by decide) (by decide) rfl rfl (fun v560 h561 J562 q563 => ?_)
    obtain ⟨s564, rfl, le565, g566, K567, n568⟩ := q563
    show Wlk _ _ _ _ _ _ _ _ _ h561 3 10 9 #[.val (.int p1), .val (.int p2), .val (.int p3), .val (.int p4), .val (.int p5), .unset, .unset, .unset, .unset] [(.ref s564)]
    refine Wlk.astore (pc' := 11) (Ls' := #[.val (.int p1), .val (.int p2), .val (.int p3), .val (.int p4), .val (.int p5), .val (.ref s564), .unset, .unset, .unset]) at_9 rfl rfl rfl rfl ?_
    refine Wlk.iloadN (pc' := 12) (v := p1) at_11 rfl rfl ?_
    refine Wlk.iconst (pc' := 13) (v := (4 : Int32)) at_12 rfl rfl ?_
    refine Wlk.iushr (pc' := 14) at_13 rfl ?_
    refine Wlk.iconst (pc' := 15) (v := (1 : Int32)) at_14 rfl rfl ?_
    refine Wlk.iand (pc' := 16) at_15 rfl ?_
    refine Wlk.if_ (pcT := 23) (pcF := 19) at_16 (by decide) (by decide) rfl (fun (hc569 : ((((p1).toUInt32 >>> ((4 : Int32) &&& 31).toUInt32).toInt32) &&& (1 : Int32)) = (0 : Int32)) => ?_) (fun (hc569 : ¬ (((((p1).toUInt32 >>> ((4 : Int32) &&& 31).toUInt32).toInt32) &&& (1 : Int32)) = (0 : Int32))) => ?_)
    · skip
      refine Wlk.iloadN (pc' := 24) (v := p1) at_23 rfl rfl ?_
      refine Wlk.iconst (pc' := 25) (v := (2 : Int32)) at_24 rfl rfl ?_
      refine Wlk.iushr (pc' := 26) at_25 rfl ?_
      refine Wlk.iconst (pc' := 27) (v := (3 : Int32)) at_26 rfl rfl ?_
      refine Wlk.iand (pc' := 28) at_27 rfl ?_
      obtain ⟨z2, e_z2⟩ : ∃ z, z = ((((p1).toUInt32 >>> ((2 : Int32) &&& 31).toUInt32).toInt32) &&& (3 : Int32)) := ⟨_, rfl⟩
      rw [← e_z2]
      by_cases hz_z2 : z2 = 0
      · subst hz_z2
        refine Wlk.iload (pc' := 30) (v := p5) at_28 rfl rfl ?_
        refine Wlk.iloadN (pc' := 31) (v := p2) at_30 rfl rfl ?_
        refine Wlk.bipush (pc' := 33) (v := (8 : Int32)) at_31 (by decide) rfl ?_
        refine Wlk.iushr (pc' := 34) at_33 rfl ?_
        refine Wlk.iloadN (pc' := 35) (v := p3) at_34 rfl rfl ?_
        refine Wlk.bipush (pc' := 37) (v := (8 : Int32)) at_35 (by decide) rfl ?_
        refine Wlk.iushr (pc' := 38) at_37 rfl ?_
        refine Wlk.callSw (pc' := 41) (z := (⟨"com/example/strict_crosswalk/strictcrosswalk/description/AspectOtherPinLaw", "str", "(IIII)Ljava/lang/String;"⟩ : MethodName)) (argsL := [(.int (0 : Int32)), (.int p5), (.int (((p2).toUInt32 >>> ((8 : Int32) &&& 31).toUInt32).toInt32)), (.int (((p3).toUInt32 >>> ((8 : Int32) &&& 31).toUInt32).toInt32))]) (st := []) (W := 0) at_38 (hw _ (List.mem_of_getElem? (i := 0) rfl)) (hw _ (List.mem_of_getElem? (i := 1) rfl)) (hw _ (List.mem_of_getElem? (i := 2) rfl)) (hw _ (List.mem_of_getElem? (i := 3) rfl)) (by decide) pd_7 rfl (rm_str0c hw p5 (((p2).toUInt32 >>> ((8 : Int32) &&& 31).toUInt32).toInt32) (((p3).toUInt32 >>> ((8 : Int32) &&& 31).toUInt32).toInt32) [] [] h561 wS hcw hh_7 (by first | exact hnT | decide)) (by decide) rfl (by decide) (by decide) (by decide) rfl rfl (fun v570 h571 J572 q573 => ?_)
        obtain ⟨s574, c575, cb576, kb577, rfl, le578, g579, K580, n581, n582, n583, n584, n585, rfl⟩ := q573
        show Wlk _ _ _ _ _ _ _ _ _ h571 7 18 41 #[.val (.int p1), .val (.int p2), .val (.int p3), .val (.int p4), .val (.int p5), .val (.ref s564), .unset, .unset, .unset] [(.ref s574)]
        refine Wlk.astore (pc' := 43) (Ls' := #[.val (.int p1), .val (.int p2), .val (.int p3), .val (.int p4), .val (.int p5), .val (.ref s564), .val (.ref s574), .unset, .unset]) at_41 rfl rfl rfl rfl ?_
        refine Wlk.aload (pc' := 45) (v := (.ref s564)) at_43 rfl rfl rfl ?_
        refine Wlk.callS (pc' := 48) (z := (⟨"com/example/strict_crosswalk/strictcrosswalk/description/Aspect", "other", "(Ljava/lang/String;)Lcom/example/strict_crosswalk/strictcrosswalk/description/Aspect;"⟩ : MethodName)) (argsL := [(.ref s564)]) (st := []) (W := 0) at_45 (hw _ (List.mem_of_getElem? (i := 26) rfl)) (hw _ (List.mem_of_getElem? (i := 27) rfl)) (hw _ (List.mem_of_getElem? (i := 28) rfl)) (hw _ (List.mem_of_getElem? (i := 29) rfl)) (by decide) pd_8 rfl (rm_otR hw s564 ot h571 OT) (by decide) rfl (by decide) (by decide) (by decide) rfl rfl (fun v586 h587 J588 q589 => ?_)
        obtain ⟨x590, rfl, le591, g592, K593, n594, n595, n596⟩ := q589
        show Wlk _ _ _ _ _ _ _ _ _ h587 8 20 48 #[.val (.int p1), .val (.int p2), .val (.int p3), .val (.int p4), .val (.int p5), .val (.ref s564), .val (.ref s574), .unset, .unset] [(.ref x590)]
        refine Wlk.astore (pc' := 50) (Ls' := #[.val (.int p1), .val (.int p2), .val (.int p3), .val (.int p4), .val (.int p5), .val (.ref s564), .val (.ref s574), .val (.ref x590), .unset]) at_48 rfl rfl rfl rfl ?_
        refine Wlk.aload (pc' := 52) (v := (.ref s574)) at_50 rfl rfl rfl ?_
        refine Wlk.callS (pc' := 55) (z := (⟨"com/example/strict_crosswalk/strictcrosswalk/description/Aspect", "other", "(Ljava/lang/String;)Lcom/example/strict_crosswalk/strictcrosswalk/description/Aspect;"⟩ : MethodName)) (argsL := [(.ref s574)]) (st := []) (W := 0) at_52 (hw _ (List.mem_of_getElem? (i := 26) rfl)) (hw _ (List.mem_of_getElem? (i := 27) rfl)) (hw _ (List.mem_of_getElem? (i := 28) rfl)) (hw _ (List.mem_of_getElem? (i := 29) rfl)) (by decide) pd_8 rfl (rm_otR hw s574 ot h587 OT) (by decide) rfl (by decide) (by decide) (by decide) rfl rfl (fun v597 h598 J599 q600 => ?_)
        obtain ⟨x601, rfl, le602, g603, K604, n605, n606, n607⟩ := q600
        show Wlk _ _ _ _ _ _ _ _ _ h598 9 22 55 #[.val (.int p1), .val (.int p2), .val (.int p3), .val (.int p4), .val (.int p5), .val (.ref s564), .val (.ref s574), .val (.ref x590), .unset] [(.ref x601)]
        refine Wlk.astore (pc' := 57) (Ls' := #[.val (.int p1), .val (.int p2), .val (.int p3), .val (.int p4), .val (.int p5), .val (.ref s564), .val (.ref s574), .val (.ref x590), .val (.ref x601)]) at_55 rfl rfl rfl rfl ?_
        refine Wlk.aload (pc' := 59) (v := (.ref x590)) at_57 rfl rfl rfl ?_
        have c608 := (n595.keep K604 nin0)
        have c613 := (n594.keep K604)
        refine Wlk.callV (pc' := 62) (a := x590) (x := (⟨"com/example/strict_crosswalk/strictcrosswalk/description/Aspect", "getPart", "()Lcom/example/strict_crosswalk/strictcrosswalk/description/Aspect$Part;"⟩ : MethodName)) (C := "com/example/strict_crosswalk/strictcrosswalk/description/Aspect") (z := (⟨"com/example/strict_crosswalk/strictcrosswalk/description/Aspect", "getPart", "()Lcom/example/strict_crosswalk/strictcrosswalk/description/Aspect$Part;"⟩ : MethodName)) (argsL := []) (st := []) (W := 0) at_59 (hw _ (List.mem_of_getElem? (i := 43) rfl)) (hw _ (List.mem_of_getElem? (i := 44) rfl)) (fun s q => notFace_of_selects (args := #[]) (mvT q (hw _ (List.mem_of_getElem? (i := 46) rfl)))) (hw _ (List.mem_of_getElem? (i := 46) rfl)) (hw _ (List.mem_of_getElem? (i := 45) rfl)) c613 (hw _ (List.mem_of_getElem? (i := 28) rfl)) (hw _ (List.mem_of_getElem? (i := 47) rfl)) (by decide) pd_9 rfl (rm_gp hw x590 ot h598 c608) (by decide) rfl (by decide) (by decide) (by decide) rfl rfl (fun v609 h610 J611 q612 => ?_)
        obtain ⟨rfl, rfl⟩ := q612
        show Wlk _ _ _ _ _ _ _ _ _ h598 9 22 62 #[.val (.int p1), .val (.int p2), .val (.int p3), .val (.int p4), .val (.int p5), .val (.ref s564), .val (.ref s574), .val (.ref x590), .val (.ref x601)] [(.ref ot)]
        refine Wlk.getS (pc' := 65) (v := (.ref ot)) at_62 (hw _ (List.mem_of_getElem? (i := 48) rfl)) Via.refl OT rfl ?_
        refine Wlk.acmp (pc' := 68) (same := true) at_65 rfl rfl (decide_eq_true rfl) (by decide) (by decide) ?_
        refine Wlk.aload (pc' := 70) (v := (.ref x601)) at_68 rfl rfl rfl ?_
        refine Wlk.callV (pc' := 73) (a := x601) (x := (⟨"com/example/strict_crosswalk/strictcrosswalk/description/Aspect", "getPart", "()Lcom/example/strict_crosswalk/strictcrosswalk/description/Aspect$Part;"⟩ : MethodName)) (C := "com/example/strict_crosswalk/strictcrosswalk/description/Aspect") (z := (⟨"com/example/strict_crosswalk/strictcrosswalk/description/Aspect", "getPart", "()Lcom/example/strict_crosswalk/strictcrosswalk/description/Aspect$Part;"⟩ : MethodName)) (argsL := []) (st := []) (W := 0) at_70 (hw _ (List.mem_of_getElem? (i := 43) rfl)) (hw _ (List.mem_of_getElem? (i := 44) rfl)) (fun s q => notFace_of_selects (args := #[]) (mvT q (hw _ (List.mem_of_getElem? (i := 46) rfl)))) (hw _ (List.mem_of_getElem? (i := 46) rfl)) (hw _ (List.mem_of_getElem? (i := 45) rfl)) n605 (hw _ (List.mem_of_getElem? (i := 28) rfl)) (hw _ (List.mem_of_getElem? (i := 47) rfl)) (by decide) pd_9 rfl (rm_gp hw x601 ot h598 n606) (by decide) rfl (by decide) (by decide) (by decide) rfl rfl (fun v614 h615 J616 q617 => ?_)
        obtain ⟨rfl, rfl⟩ := q617
        show Wlk _ _ _ _ _ _ _ _ _ h598 9 22 73 #[.val (.int p1), .val (.int p2), .val (.int p3), .val (.int p4), .val (.int p5), .val (.ref s564), .val (.ref s574), .val (.ref x590), .val (.ref x601)] [(.ref ot)]
        refine Wlk.getS (pc' := 76) (v := (.ref ot)) at_73 (hw _ (List.mem_of_getElem? (i := 48) rfl)) Via.refl OT rfl ?_
        refine Wlk.acmp (pc' := 79) (same := true) at_76 rfl rfl (decide_eq_true rfl) (by decide) (by decide) ?_
        refine Wlk.aload (pc' := 81) (v := (.ref s564)) at_79 rfl rfl rfl ?_
        refine Wlk.aload (pc' := 83) (v := (.ref x590)) at_81 rfl rfl rfl ?_
        have c618 := (n596.keep K604 nin0)
        refine Wlk.callV (pc' := 86) (a := x590) (x := (⟨"com/example/strict_crosswalk/strictcrosswalk/description/Aspect", "getName", "()Ljava/lang/String;"⟩ : MethodName)) (C := "com/example/strict_crosswalk/strictcrosswalk/description/Aspect") (z := (⟨"com/example/strict_crosswalk/strictcrosswalk/description/Aspect", "getName", "()Ljava/lang/String;"⟩ : MethodName)) (argsL := []) (st := [(.ref s564)]) (W := 1) at_83 (hw _ (List.mem_of_getElem? (i := 49) rfl)) (hw _ (List.mem_of_getElem? (i := 50) rfl)) (fun s q => notFace_of_selects (args := #[]) (mvT q (hw _ (List.mem_of_getElem? (i := 52) rfl)))) (hw _ (List.mem_of_getElem? (i := 52) rfl)) (hw _ (List.mem_of_getElem? (i := 51) rfl)) c613 (hw _ (List.mem_of_getElem? (i := 28) rfl)) (hw _ (List.mem_of_getElem? (i := 53) rfl)) (by decide) pd_10 rfl (rm_gnR hw x590 s564 h598 c618) (by decide) rfl (by decide) (by decide) (by decide) rfl rfl (fun v619 h620 J621 q622 => ?_)
        obtain ⟨rfl, rfl⟩ := q622
        show Wlk _ _ _ _ _ _ _ _ _ h598 9 22 86 #[.val (.int p1), .val (.int p2), .val (.int p3), .val (.int p4), .val (.int p5), .val (.ref s564), .val (.ref s574), .val (.ref x590), .val (.ref x601)] [(.ref s564), (.ref s564)]
        have c623 := (((n568.keep K580).keep K593).keep K604)
        refine Wlk.callS (pc' := 89) (z := (⟨"com/example/strict_crosswalk/strictcrosswalk/description/AspectOtherPinLaw", "sameName", "(Ljava/lang/String;Ljava/lang/String;)Z"⟩ : MethodName)) (argsL := [(.ref s564), (.ref s564)]) (st := []) (W := 0) at_86 (hw _ (List.mem_of_getElem? (i := 54) rfl)) (hw _ (List.mem_of_getElem? (i := 55) rfl)) (hw _ (List.mem_of_getElem? (i := 2) rfl)) (hw _ (List.mem_of_getElem? (i := 56) rfl)) (by decide) pd_11 rfl (rm_snR hw s564 h598 c623) (by decide) rfl (by decide) (by decide) (by decide) rfl rfl (fun v624 h625 J626 q627 => ?_)
        obtain ⟨rfl, rfl⟩ := q627
        show Wlk _ _ _ _ _ _ _ _ _ h598 9 22 89 #[.val (.int p1), .val (.int p2), .val (.int p3), .val (.int p4), .val (.int p5), .val (.ref s564), .val (.ref s574), .val (.ref x590), .val (.ref x601)] [(.int (1 : Int32))]
        refine Wlk.ifF (pc' := 92) at_89 (show ¬ ((1 : Int32) = (0 : Int32)) from by decide) rfl ?_
        refine Wlk.aload (pc' := 94) (v := (.ref s574)) at_92 rfl rfl rfl ?_
        refine Wlk.aload (pc' := 96) (v := (.ref x601)) at_94 rfl rfl rfl ?_
        refine Wlk.callV (pc' := 99) (a := x601) (x := (⟨"com/example/strict_crosswalk/strictcrosswalk/description/Aspect", "getName", "()Ljava/lang/String;"⟩ : MethodName)) (C := "com/example/strict_crosswalk/strictcrosswalk/description/Aspect") (z := (⟨"com/example/strict_crosswalk/strictcrosswalk/description/Aspect", "getName", "()Ljava/lang/String;"⟩ : MethodName)) (argsL := []) (st := [(.ref s574)]) (W := 1) at_96 (hw _ (List.mem_of_getElem? (i := 49) rfl)) (hw _ (List.mem_of_getElem? (i := 50) rfl)) (fun s q => notFace_of_selects (args := #[]) (mvT q (hw _ (List.mem_of_getElem? (i := 52) rfl)))) (hw _ (List.mem_of_getElem? (i := 52) rfl)) (hw _ (List.mem_of_getElem? (i := 51) rfl)) n605 (hw _ (List.mem_of_getElem? (i := 28) rfl)) (hw _ (List.mem_of_getElem? (i := 53) rfl)) (by decide) pd_10 rfl (rm_gnR hw x601 s574 h598 n607) (by decide) rfl (by decide) (by decide) (by decide) rfl rfl (fun v628 h629 J630 q631 => ?_)
        obtain ⟨rfl, rfl⟩ := q631
        show Wlk _ _ _ _ _ _ _ _ _ h598 9 22 99 #[.val (.int p1), .val (.int p2), .val (.int p3), .val (.int p4), .val (.int p5), .val (.ref s564), .val (.ref s574), .val (.ref x590), .val (.ref x601)] [(.ref s574), (.ref s574)]
        have c632 := ((n585.keep K593).keep K604)
        refine Wlk.callS (pc' := 102) (z := (⟨"com/example/strict_crosswalk/strictcrosswalk/description/AspectOtherPinLaw", "sameName", "(Ljava/lang/String;Ljava/lang/String;)Z"⟩ : MethodName)) (argsL := [(.ref s574), (.ref s574)]) (st := []) (W := 0) at_99 (hw _ (List.mem_of_getElem? (i := 54) rfl)) (hw _ (List.mem_of_getElem? (i := 55) rfl)) (hw _ (List.mem_of_getElem? (i := 2) rfl)) (hw _ (List.mem_of_getElem? (i := 56) rfl)) (by decide) pd_11 rfl (rm_snR hw s574 h598 c632) (by decide) rfl (by decide) (by decide) (by decide) rfl rfl (fun v633 h634 J635 q636 => ?_)
        obtain ⟨rfl, rfl⟩ := q636
        show Wlk _ _ _ _ _ _ _ _ _ h598 9 22 102 #[.val (.int p1), .val (.int p2), .val (.int p3), .val (.int p4), .val (.int p5), .val (.ref s564), .val (.ref s574), .val (.ref x590), .val (.ref x601)] [(.int (1 : Int32))]
        refine Wlk.ifF (pc' := 105) at_102 (show ¬ ((1 : Int32) = (0 : Int32)) from by decide) rfl ?_
        refine Wlk.iconst (pc' := 106) (v := (1 : Int32)) at_105 rfl rfl ?_
        refine Wlk.goto (pc' := 110) at_106 (by decide) (by decide) ?_
        refine Wlk.ireturnN (t := .boolean) at_110 rfl (by simp) (by decide) (by decide) ?_
        exact rfl
      · have hz := hz_z2
        refine Wlk.iload (pc' := 30) (v := p5) at_28 rfl rfl ?_
        refine Wlk.iloadN (pc' := 31) (v := p2) at_30 rfl rfl ?_
        refine Wlk.bipush (pc' := 33) (v := (8 : Int32)) at_31 (by decide) rfl ?_
        refine Wlk.iushr (pc' := 34) at_33 rfl ?_
        refine Wlk.iloadN (pc' := 35) (v := p3) at_34 rfl rfl ?_
        refine Wlk.bipush (pc' := 37) (v := (8 : Int32)) at_35 (by decide) rfl ?_
        refine Wlk.iushr (pc' := 38) at_37 rfl ?_
        refine Wlk.callS (pc' := 41) (z := (⟨"com/example/strict_crosswalk/strictcrosswalk/description/AspectOtherPinLaw", "str", "(IIII)Ljava/lang/String;"⟩ : MethodName)) (argsL := [(.int z2), (.int p5), (.int (((p2).toUInt32 >>> ((8 : Int32) &&& 31).toUInt32).toInt32)), (.int (((p3).toUInt32 >>> ((8 : Int32) &&& 31).toUInt32).toInt32))]) (st := []) (W := 0) at_38 (hw _ (List.mem_of_getElem? (i := 0) rfl)) (hw _ (List.mem_of_getElem? (i := 1) rfl)) (hw _ (List.mem_of_getElem? (i := 2) rfl)) (hw _ (List.mem_of_getElem? (i := 3) rfl)) (by decide) pd_7 rfl (rm_strN hw z2 p5 (((p2).toUInt32 >>> ((8 : Int32) &&& 31).toUInt32).toInt32) (((p3).toUInt32 >>> ((8 : Int32) &&& 31).toUInt32).toInt32) zc h561 O2 P3 hz) (by decide) rfl (by decide) (by decide) (by decide) rfl rfl (fun v637 h638 J639 q640 => ?_)
        obtain ⟨s641, rfl, le642, g643, K644, n645⟩ := q640
        show Wlk _ _ _ _ _ _ _ _ _ h638 6 20 41 #[.val (.int p1), .val (.int p2), .val (.int p3), .val (.int p4), .val (.int p5), .val (.ref s564), .unset, .unset, .unset] [(.ref s641)]
        refine Wlk.astore (pc' := 43) (Ls' := #[.val (.int p1), .val (.int p2), .val (.int p3), .val (.int p4), .val (.int p5), .val (.ref s564), .val (.ref s641), .unset, .unset]) at_41 rfl rfl rfl rfl ?_
        refine Wlk.aload (pc' := 45) (v := (.ref s564)) at_43 rfl rfl rfl ?_
        refine Wlk.callS (pc' := 48) (z := (⟨"com/example/strict_crosswalk/strictcrosswalk/description/Aspect", "other", "(Ljava/lang/String;)Lcom/example/strict_crosswalk/strictcrosswalk/description/Aspect;"⟩ : MethodName)) (argsL := [(.ref s564)]) (st := []) (W := 0) at_45 (hw _ (List.mem_of_getElem? (i := 26) rfl)) (hw _ (List.mem_of_getElem? (i := 27) rfl)) (hw _ (List.mem_of_getElem? (i := 28) rfl)) (hw _ (List.mem_of_getElem? (i := 29) rfl)) (by decide) pd_8 rfl (rm_otR hw s564 ot h638 OT) (by decide) rfl (by decide) (by decide) (by decide) rfl rfl (fun v646 h647 J648 q649 => ?_)
        obtain ⟨x650, rfl, le651, g652, K653, n654, n655, n656⟩ := q649
        show Wlk _ _ _ _ _ _ _ _ _ h647 7 22 48 #[.val (.int p1), .val (.int p2), .val (.int p3), .val (.int p4), .val (.int p5), .val (.ref s564), .val (.ref s641), .unset, .unset] [(.ref x650)]
        refine Wlk.astore (pc' := 50) (Ls' := #[.val (.int p1), .val (.int p2), .val (.int p3), .val (.int p4), .val (.int p5), .val (.ref s564), .val (.ref s641), .val (.ref x650), .unset]) at_48 rfl rfl rfl rfl ?_
        refine Wlk.aload (pc' := 52) (v := (.ref s641)) at_50 rfl rfl rfl ?_
        refine Wlk.callS (pc' := 55) (z := (⟨"com/example/strict_crosswalk/strictcrosswalk/description/Aspect", "other", "(Ljava/lang/String;)Lcom/example/strict_crosswalk/strictcrosswalk/description/Aspect;"⟩ : MethodName)) (argsL := [(.ref s641)]) (st := []) (W := 0) at_52 (hw _ (List.mem_of_getElem? (i := 26) rfl)) (hw _ (List.mem_of_getElem? (i := 27) rfl)) (hw _ (List.mem_of_getElem? (i := 28) rfl)) (hw _ (List.mem_of_getElem? (i := 29) rfl)) (by decide) pd_8 rfl (rm_otR hw s641 ot h647 OT) (by decide) rfl (by decide) (by decide) (by decide) rfl rfl (fun v657 h658 J659 q660 => ?_)
        obtain ⟨x661, rfl, le662, g663, K664, n665, n666, n667⟩ := q660
        show Wlk _ _ _ _ _ _ _ _ _ h658 8 24 55 #[.val (.int p1), .val (.int p2), .val (.int p3), .val (.int p4), .val (.int p5), .val (.ref s564), .val (.ref s641), .val (.ref x650), .unset] [(.ref x661)]
        refine Wlk.astore (pc' := 57) (Ls' := #[.val (.int p1), .val (.int p2), .val (.int p3), .val (.int p4), .val (.int p5), .val (.ref s564), .val (.ref s641), .val (.ref x650), .val (.ref x661)]) at_55 rfl rfl rfl rfl ?_
        refine Wlk.aload (pc' := 59) (v := (.ref x650)) at_57 rfl rfl rfl ?_
        have c668 := (n655.keep K664 nin0)
        have c673 := (n654.keep K664)
        refine Wlk.callV (pc' := 62) (a := x650) (x := (⟨"com/example/strict_crosswalk/strictcrosswalk/description/Aspect", "getPart", "()Lcom/example/strict_crosswalk/strictcrosswalk/description/Aspect$Part;"⟩ : MethodName)) (C := "com/example/strict_crosswalk/strictcrosswalk/description/Aspect") (z := (⟨"com/example/strict_crosswalk/strictcrosswalk/description/Aspect", "getPart", "()Lcom/example/strict_crosswalk/strictcrosswalk/description/Aspect$Part;"⟩ : MethodName)) (argsL := []) (st := []) (W := 0) at_59 (hw _ (List.mem_of_getElem? (i := 43) rfl)) (hw _ (List.mem_of_getElem? (i := 44) rfl)) (fun s q => notFace_of_selects (args := #[]) (mvT q (hw _ (List.mem_of_getElem? (i := 46) rfl)))) (hw _ (List.mem_of_getElem? (i := 46) rfl)) (hw _ (List.mem_of_getElem? (i := 45) rfl)) c673 (hw _ (List.mem_of_getElem? (i := 28) rfl)) (hw _ (List.mem_of_getElem? (i := 47) rfl)) (by decide) pd_9 rfl (rm_gp hw x650 ot h658 c668) (by decide) rfl (by decide) (by decide) (by decide) rfl rfl (fun v669 h670 J671 q672 => ?_)
        obtain ⟨rfl, rfl⟩ := q672
        show Wlk _ _ _ _ _ _ _ _ _ h658 8 24 62 #[.val (.int p1), .val (.int p2), .val (.int p3), .val (.int p4), .val (.int p5), .val (.ref s564), .val (.ref s641), .val (.ref x650), .val (.ref x661)] [(.ref ot)]
        refine Wlk.getS (pc' := 65) (v := (.ref ot)) at_62 (hw _ (List.mem_of_getElem? (i := 48) rfl)) Via.refl OT rfl ?_
        refine Wlk.acmp (pc' := 68) (same := true) at_65 rfl rfl (decide_eq_true rfl) (by decide) (by decide) ?_
        refine Wlk.aload (pc' := 70) (v := (.ref x661)) at_68 rfl rfl rfl ?_
        refine Wlk.callV (pc' := 73) (a := x661) (x := (⟨"com/example/strict_crosswalk/strictcrosswalk/description/Aspect", "getPart", "()Lcom/example/strict_crosswalk/strictcrosswalk/description/Aspect$Part;"⟩ : MethodName)) (C := "com/example/strict_crosswalk/strictcrosswalk/description/Aspect") (z := (⟨"com/example/strict_crosswalk/strictcrosswalk/description/Aspect", "getPart", "()Lcom/example/strict_crosswalk/strictcrosswalk/description/Aspect$Part;"⟩ : MethodName)) (argsL := []) (st := []) (W := 0) at_70 (hw _ (List.mem_of_getElem? (i := 43) rfl)) (hw _ (List.mem_of_getElem? (i := 44) rfl)) (fun s q => notFace_of_selects (args := #[]) (mvT q (hw _ (List.mem_of_getElem? (i := 46) rfl)))) (hw _ (List.mem_of_getElem? (i := 46) rfl)) (hw _ (List.mem_of_getElem? (i := 45) rfl)) n665 (hw _ (List.mem_of_getElem? (i := 28) rfl)) (hw _ (List.mem_of_getElem? (i := 47) rfl)) (by decide) pd_9 rfl (rm_gp hw x661 ot h658 n666) (by decide) rfl (by decide) (by decide) (by decide) rfl rfl (fun v674 h675 J676 q677 => ?_)
        obtain ⟨rfl, rfl⟩ := q677
        show Wlk _ _ _ _ _ _ _ _ _ h658 8 24 73 #[.val (.int p1), .val (.int p2), .val (.int p3), .val (.int p4), .val (.int p5), .val (.ref s564), .val (.ref s641), .val (.ref x650), .val (.ref x661)] [(.ref ot)]
        refine Wlk.getS (pc' := 76) (v := (.ref ot)) at_73 (hw _ (List.mem_of_getElem? (i := 48) rfl)) Via.refl OT rfl ?_
        refine Wlk.acmp (pc' := 79) (same := true) at_76 rfl rfl (decide_eq_true rfl) (by decide) (by decide) ?_
        refine Wlk.aload (pc' := 81) (v := (.ref s564)) at_79 rfl rfl rfl ?_
        refine Wlk.aload (pc' := 83) (v := (.ref x650)) at_81 rfl rfl rfl ?_
        have c678 := (n656.keep K664 nin0)
        refine Wlk.callV (pc' := 86) (a := x650) (x := (⟨"com/example/strict_crosswalk/strictcrosswalk/description/Aspect", "getName", "()Ljava/lang/String;"⟩ : MethodName)) (C := "com/example/strict_crosswalk/strictcrosswalk/description/Aspect") (z := (⟨"com/example/strict_crosswalk/strictcrosswalk/description/Aspect", "getName", "()Ljava/lang/String;"⟩ : MethodName)) (argsL := []) (st := [(.ref s564)]) (W := 1) at_83 (hw _ (List.mem_of_getElem? (i := 49) rfl)) (hw _ (List.mem_of_getElem? (i := 50) rfl)) (fun s q => notFace_of_selects (args := #[]) (mvT q (hw _ (List.mem_of_getElem? (i := 52) rfl)))) (hw _ (List.mem_of_getElem? (i := 52) rfl)) (hw _ (List.mem_of_getElem? (i := 51) rfl)) c673 (hw _ (List.mem_of_getElem? (i := 28) rfl)) (hw _ (List.mem_of_getElem? (i := 53) rfl)) (by decide) pd_10 rfl (rm_gnR hw x650 s564 h658 c678) (by decide) rfl (by decide) (by decide) (by decide) rfl rfl (fun v679 h680 J681 q682 => ?_)
        obtain ⟨rfl, rfl⟩ := q682
        show Wlk _ _ _ _ _ _ _ _ _ h658 8 24 86 #[.val (.int p1), .val (.int p2), .val (.int p3), .val (.int p4), .val (.int p5), .val (.ref s564), .val (.ref s641), .val (.ref x650), .val (.ref x661)] [(.ref s564), (.ref s564)]
        have c683 := (((n568.keep K644).keep K653).keep K664)
        refine Wlk.callS (pc' := 89) (z := (⟨"com/example/strict_crosswalk/strictcrosswalk/description/AspectOtherPinLaw", "sameName", "(Ljava/lang/String;Ljava/lang/String;)Z"⟩ : MethodName)) (argsL := [(.ref s564), (.ref s564)]) (st := []) (W := 0) at_86 (hw _ (List.mem_of_getElem? (i := 54) rfl)) (hw _ (List.mem_of_getElem? (i := 55) rfl)) (hw _ (List.mem_of_getElem? (i := 2) rfl)) (hw _ (List.mem_of_getElem? (i := 56) rfl)) (by decide) pd_11 rfl (rm_snR hw s564 h658 c683) (by decide) rfl (by decide) (by decide) (by decide) rfl rfl (fun v684 h685 J686 q687 => ?_)
        obtain ⟨rfl, rfl⟩ := q687
        show Wlk _ _ _ _ _ _ _ _ _ h658 8 24 89 #[.val (.int p1), .val (.int p2), .val (.int p3), .val (.int p4), .val (.int p5), .val (.ref s564), .val (.ref s641), .val (.ref x650), .val (.ref x661)] [(.int (1 : Int32))]
        refine Wlk.ifF (pc' := 92) at_89 (show ¬ ((1 : Int32) = (0 : Int32)) from by decide) rfl ?_
        refine Wlk.aload (pc' := 94) (v := (.ref s641)) at_92 rfl rfl rfl ?_
        refine Wlk.aload (pc' := 96) (v := (.ref x661)) at_94 rfl rfl rfl ?_
        refine Wlk.callV (pc' := 99) (a := x661) (x := (⟨"com/example/strict_crosswalk/strictcrosswalk/description/Aspect", "getName", "()Ljava/lang/String;"⟩ : MethodName)) (C := "com/example/strict_crosswalk/strictcrosswalk/description/Aspect") (z := (⟨"com/example/strict_crosswalk/strictcrosswalk/description/Aspect", "getName", "()Ljava/lang/String;"⟩ : MethodName)) (argsL := []) (st := [(.ref s641)]) (W := 1) at_96 (hw _ (List.mem_of_getElem? (i := 49) rfl)) (hw _ (List.mem_of_getElem? (i := 50) rfl)) (fun s q => notFace_of_selects (args := #[]) (mvT q (hw _ (List.mem_of_getElem? (i := 52) rfl)))) (hw _ (List.mem_of_getElem? (i := 52) rfl)) (hw _ (List.mem_of_getElem? (i := 51) rfl)) n665 (hw _ (List.mem_of_getElem? (i := 28) rfl)) (hw _ (List.mem_of_getElem? (i := 53) rfl)) (by decide) pd_10 rfl (rm_gnR hw x661 s641 h658 n667) (by decide) rfl (by decide) (by decide) (by decide) rfl rfl (fun v688 h689 J690 q691 => ?_)
        obtain ⟨rfl, rfl⟩ := q691
        show Wlk _ _ _ _ _ _ _ _ _ h658 8 24 99 #[.val (.int p1), .val (.int p2), .val (.int p3), .val (.int p4), .val (.int p5), .val (.ref s564), .val (.ref s641), .val (.ref x650), .val (.ref x661)] [(.ref s641), (.ref s641)]
        have c692 := ((n645.keep K653).keep K664)
        refine Wlk.callS (pc' := 102) (z := (⟨"com/example/strict_crosswalk/strictcrosswalk/description/AspectOtherPinLaw", "sameName", "(Ljava/lang/String;Ljava/lang/String;)Z"⟩ : MethodName)) (argsL := [(.ref s641), (.ref s641)]) (st := []) (W := 0) at_99 (hw _ (List.mem_of_getElem? (i := 54) rfl)) (hw _ (List.mem_of_getElem? (i := 55) rfl)) (hw _ (List.mem_of_getElem? (i := 2) rfl)) (hw _ (List.mem_of_getElem? (i := 56) rfl)) (by decide) pd_11 rfl (rm_snR hw s641 h658 c692) (by decide) rfl (by decide) (by decide) (by decide) rfl rfl (fun v693 h694 J695 q696 => ?_)
        obtain ⟨rfl, rfl⟩ := q696
        show Wlk _ _ _ _ _ _ _ _ _ h658 8 24 102 #[.val (.int p1), .val (.int p2), .val (.int p3), .val (.int p4), .val (.int p5), .val (.ref s564), .val (.ref s641), .val (.ref x650), .val (.ref x661)] [(.int (1 : Int32))]
        refine Wlk.ifF (pc' := 105) at_102 (show ¬ ((1 : Int32) = (0 : Int32)) from by decide) rfl ?_
        refine Wlk.iconst (pc' := 106) (v := (1 : Int32)) at_105 rfl rfl ?_
        refine Wlk.goto (pc' := 110) at_106 (by decide) (by decide) ?_
        refine Wlk.ireturnN (t := .boolean) at_110 rfl (by simp) (by decide) (by decide) ?_
        exact rfl
    · skip
      refine Wlk.aconstNull (pc' := 20) at_19 rfl ?_
      refine Wlk.goto (pc' := 41) at_20 (by decide) (by decide) ?_
      refine Wlk.astore (pc' := 43) (Ls' := #[.val (.int p1), .val (.int p2), .val (.int p3), .val (.int p4), .val (.int p5), .val (.ref s564), .val .null, .unset, .unset]) at_41 rfl rfl rfl rfl ?_
      refine Wlk.aload (pc' := 45) (v := (.ref s564)) at_43 rfl rfl rfl ?_
      refine Wlk.callS (pc' := 48) (z := (⟨"com/example/strict_crosswalk/strictcrosswalk/description/Aspect", "other", "(Ljava/lang/String;)Lcom/example/strict_crosswalk/strictcrosswalk/description/Aspect;"⟩ : MethodName)) (argsL := [(.ref s564)]) (st := []) (W := 0) at_45 (hw _ (List.mem_of_getElem? (i := 26) rfl)) (hw _ (List.mem_of_getElem? (i := 27) rfl)) (hw _ (List.mem_of_getElem? (i := 28) rfl)) (hw _ (List.mem_of_getElem? (i := 29) rfl)) (by decide) pd_8 rfl (rm_otR hw s564 ot h561 OT) (by decide) rfl (by decide) (by decide) (by decide) rfl rfl (fun v697 h698 J699 q700 => ?_)
      obtain ⟨x701, rfl, le702, g703, K704, n705, n706, n707⟩ := q700
      show Wlk _ _ _ _ _ _ _ _ _ h698 4 12 48 #[.val (.int p1), .val (.int p2), .val (.int p3), .val (.int p4), .val (.int p5), .val (.ref s564), .val .null, .unset, .unset] [(.ref x701)]
      refine Wlk.astore (pc' := 50) (Ls' := #[.val (.int p1), .val (.int p2), .val (.int p3), .val (.int p4), .val (.int p5), .val (.ref s564), .val .null, .val (.ref x701), .unset]) at_48 rfl rfl rfl rfl ?_
      refine Wlk.aload (pc' := 52) (v := .null) at_50 rfl rfl rfl ?_
      refine Wlk.callS (pc' := 55) (z := (⟨"com/example/strict_crosswalk/strictcrosswalk/description/Aspect", "other", "(Ljava/lang/String;)Lcom/example/strict_crosswalk/strictcrosswalk/description/Aspect;"⟩ : MethodName)) (argsL := [.null]) (st := []) (W := 0) at_52 (hw _ (List.mem_of_getElem? (i := 26) rfl)) (hw _ (List.mem_of_getElem? (i := 27) rfl)) (hw _ (List.mem_of_getElem? (i := 28) rfl)) (hw _ (List.mem_of_getElem? (i := 29) rfl)) (by decide) pd_8 rfl (rm_otN hw ot h698 OT) (by decide) rfl (by decide) (by decide) (by decide) rfl rfl (fun v708 h709 J710 q711 => ?_)
      obtain ⟨x712, rfl, le713, g714, K715, n716, n717, n718⟩ := q711
      show Wlk _ _ _ _ _ _ _ _ _ h709 5 14 55 #[.val (.int p1), .val (.int p2), .val (.int p3), .val (.int p4), .val (.int p5), .val (.ref s564), .val .null, .val (.ref x701), .unset] [(.ref x712)]
      refine Wlk.astore (pc' := 57) (Ls' := #[.val (.int p1), .val (.int p2), .val (.int p3), .val (.int p4), .val (.int p5), .val (.ref s564), .val .null, .val (.ref x701), .val (.ref x712)]) at_55 rfl rfl rfl rfl ?_
      refine Wlk.aload (pc' := 59) (v := (.ref x701)) at_57 rfl rfl rfl ?_
      have c719 := (n706.keep K715 nin0)
      have c724 := (n705.keep K715)
      refine Wlk.callV (pc' := 62) (a := x701) (x := (⟨"com/example/strict_crosswalk/strictcrosswalk/description/Aspect", "getPart", "()Lcom/example/strict_crosswalk/strictcrosswalk/description/Aspect$Part;"⟩ : MethodName)) (C := "com/example/strict_crosswalk/strictcrosswalk/description/Aspect") (z := (⟨"com/example/strict_crosswalk/strictcrosswalk/description/Aspect", "getPart", "()Lcom/example/strict_crosswalk/strictcrosswalk/description/Aspect$Part;"⟩ : MethodName)) (argsL := []) (st := []) (W := 0) at_59 (hw _ (List.mem_of_getElem? (i := 43) rfl)) (hw _ (List.mem_of_getElem? (i := 44) rfl)) (fun s q => notFace_of_selects (args := #[]) (mvT q (hw _ (List.mem_of_getElem? (i := 46) rfl)))) (hw _ (List.mem_of_getElem? (i := 46) rfl)) (hw _ (List.mem_of_getElem? (i := 45) rfl)) c724 (hw _ (List.mem_of_getElem? (i := 28) rfl)) (hw _ (List.mem_of_getElem? (i := 47) rfl)) (by decide) pd_9 rfl (rm_gp hw x701 ot h709 c719) (by decide) rfl (by decide) (by decide) (by decide) rfl rfl (fun v720 h721 J722 q723 => ?_)
      obtain ⟨rfl, rfl⟩ := q723
      show Wlk _ _ _ _ _ _ _ _ _ h709 5 14 62 #[.val (.int p1), .val (.int p2), .val (.int p3), .val (.int p4), .val (.int p5), .val (.ref s564), .val .null, .val (.ref x701), .val (.ref x712)] [(.ref ot)]
      refine Wlk.getS (pc' := 65) (v := (.ref ot)) at_62 (hw _ (List.mem_of_getElem? (i := 48) rfl)) Via.refl OT rfl ?_
      refine Wlk.acmp (pc' := 68) (same := true) at_65 rfl rfl (decide_eq_true rfl) (by decide) (by decide) ?_
      refine Wlk.aload (pc' := 70) (v := (.ref x712)) at_68 rfl rfl rfl ?_
      refine Wlk.callV (pc' := 73) (a := x712) (x := (⟨"com/example/strict_crosswalk/strictcrosswalk/description/Aspect", "getPart", "()Lcom/example/strict_crosswalk/strictcrosswalk/description/Aspect$Part;"⟩ : MethodName)) (C := "com/example/strict_crosswalk/strictcrosswalk/description/Aspect") (z := (⟨"com/example/strict_crosswalk/strictcrosswalk/description/Aspect", "getPart", "()Lcom/example/strict_crosswalk/strictcrosswalk/description/Aspect$Part;"⟩ : MethodName)) (argsL := []) (st := []) (W := 0) at_70 (hw _ (List.mem_of_getElem? (i := 43) rfl)) (hw _ (List.mem_of_getElem? (i := 44) rfl)) (fun s q => notFace_of_selects (args := #[]) (mvT q (hw _ (List.mem_of_getElem? (i := 46) rfl)))) (hw _ (List.mem_of_getElem? (i := 46) rfl)) (hw _ (List.mem_of_getElem? (i := 45) rfl)) n716 (hw _ (List.mem_of_getElem? (i := 28) rfl)) (hw _ (List.mem_of_getElem? (i := 47) rfl)) (by decide) pd_9 rfl (rm_gp hw x712 ot h709 n717) (by decide) rfl (by decide) (by decide) (by decide) rfl rfl (fun v725 h726 J727 q728 => ?_)
      obtain ⟨rfl, rfl⟩ := q728
      show Wlk _ _ _ _ _ _ _ _ _ h709 5 14 73 #[.val (.int p1), .val (.int p2), .val (.int p3), .val (.int p4), .val (.int p5), .val (.ref s564), .val .null, .val (.ref x701), .val (.ref x712)] [(.ref ot)]
      refine Wlk.getS (pc' := 76) (v := (.ref ot)) at_73 (hw _ (List.mem_of_getElem? (i := 48) rfl)) Via.refl OT rfl ?_
      refine Wlk.acmp (pc' := 79) (same := true) at_76 rfl rfl (decide_eq_true rfl) (by decide) (by decide) ?_
      refine Wlk.aload (pc' := 81) (v := (.ref s564)) at_79 rfl rfl rfl ?_
      refine Wlk.aload (pc' := 83) (v := (.ref x701)) at_81 rfl rfl rfl ?_
      have c729 := (n707.keep K715 nin0)
      refine Wlk.callV (pc' := 86) (a := x701) (x := (⟨"com/example/strict_crosswalk/strictcrosswalk/description/Aspect", "getName", "()Ljava/lang/String;"⟩ : MethodName)) (C := "com/example/strict_crosswalk/strictcrosswalk/description/Aspect") (z := (⟨"com/example/strict_crosswalk/strictcrosswalk/description/Aspect", "getName", "()Ljava/lang/String;"⟩ : MethodName)) (argsL := []) (st := [(.ref s564)]) (W := 1) at_83 (hw _ (List.mem_of_getElem? (i := 49) rfl)) (hw _ (List.mem_of_getElem? (i := 50) rfl)) (fun s q => notFace_of_selects (args := #[]) (mvT q (hw _ (List.mem_of_getElem? (i := 52) rfl)))) (hw _ (List.mem_of_getElem? (i := 52) rfl)) (hw _ (List.mem_of_getElem? (i := 51) rfl)) c724 (hw _ (List.mem_of_getElem? (i := 28) rfl)) (hw _ (List.mem_of_getElem? (i := 53) rfl)) (by decide) pd_10 rfl (rm_gnR hw x701 s564 h709 c729) (by decide) rfl (by decide) (by decide) (by decide) rfl rfl (fun v730 h731 J732 q733 => ?_)
      obtain ⟨rfl, rfl⟩ := q733
      show Wlk _ _ _ _ _ _ _ _ _ h709 5 14 86 #[.val (.int p1), .val (.int p2), .val (.int p3), .val (.int p4), .val (.int p5), .val (.ref s564), .val .null, .val (.ref x701), .val (.ref x712)] [(.ref s564), (.ref s564)]
      have c734 := ((n568.keep K704).keep K715)
      refine Wlk.callS (pc' := 89) (z := (⟨"com/example/strict_crosswalk/strictcrosswalk/description/AspectOtherPinLaw", "sameName", "(Ljava/lang/String;Ljava/lang/String;)Z"⟩ : MethodName)) (argsL := [(.ref s564), (.ref s564)]) (st := []) (W := 0) at_86 (hw _ (List.mem_of_getElem? (i := 54) rfl)) (hw _ (List.mem_of_getElem? (i := 55) rfl)) (hw _ (List.mem_of_getElem? (i := 2) rfl)) (hw _ (List.mem_of_getElem? (i := 56) rfl)) (by decide) pd_11 rfl (rm_snR hw s564 h709 c734) (by decide) rfl (by decide) (by decide) (by decide) rfl rfl (fun v735 h736 J737 q738 => ?_)
      obtain ⟨rfl, rfl⟩ := q738
      show Wlk _ _ _ _ _ _ _ _ _ h709 5 14 89 #[.val (.int p1), .val (.int p2), .val (.int p3), .val (.int p4), .val (.int p5), .val (.ref s564), .val .null, .val (.ref x701), .val (.ref x712)] [(.int (1 : Int32))]
      refine Wlk.ifF (pc' := 92) at_89 (show ¬ ((1 : Int32) = (0 : Int32)) from by decide) rfl ?_
      refine Wlk.aload (pc' := 94) (v := .null) at_92 rfl rfl rfl ?_
      refine Wlk.aload (pc' := 96) (v := (.ref x712)) at_94 rfl rfl rfl ?_
      refine Wlk.callV (pc' := 99) (a := x712) (x := (⟨"com/example/strict_crosswalk/strictcrosswalk/description/Aspect", "getName", "()Ljava/lang/String;"⟩ : MethodName)) (C := "com/example/strict_crosswalk/strictcrosswalk/description/Aspect") (z := (⟨"com/example/strict_crosswalk/strictcrosswalk/description/Aspect", "getName", "()Ljava/lang/String;"⟩ : MethodName)) (argsL := []) (st := [.null]) (W := 1) at_96 (hw _ (List.mem_of_getElem? (i := 49) rfl)) (hw _ (List.mem_of_getElem? (i := 50) rfl)) (fun s q => notFace_of_selects (args := #[]) (mvT q (hw _ (List.mem_of_getElem? (i := 52) rfl)))) (hw _ (List.mem_of_getElem? (i := 52) rfl)) (hw _ (List.mem_of_getElem? (i := 51) rfl)) n716 (hw _ (List.mem_of_getElem? (i := 28) rfl)) (hw _ (List.mem_of_getElem? (i := 53) rfl)) (by decide) pd_10 rfl (rm_gnN hw x712 h709 n718) (by decide) rfl (by decide) (by decide) (by decide) rfl rfl (fun v739 h740 J741 q742 => ?_)
      obtain ⟨rfl, rfl⟩ := q742
      show Wlk _ _ _ _ _ _ _ _ _ h709 5 14 99 #[.val (.int p1), .val (.int p2), .val (.int p3), .val (.int p4), .val (.int p5), .val (.ref s564), .val .null, .val (.ref x701), .val (.ref x712)] [.null, .null]
      refine Wlk.callS (pc' := 102) (z := (⟨"com/example/strict_crosswalk/strictcrosswalk/description/AspectOtherPinLaw", "sameName", "(Ljava/lang/String;Ljava/lang/String;)Z"⟩ : MethodName)) (argsL := [.null, .null]) (st := []) (W := 0) at_99 (hw _ (List.mem_of_getElem? (i := 54) rfl)) (hw _ (List.mem_of_getElem? (i := 55) rfl)) (hw _ (List.mem_of_getElem? (i := 2) rfl)) (hw _ (List.mem_of_getElem? (i := 56) rfl)) (by decide) pd_11 rfl (rm_snN hw  h709 ) (by decide) rfl (by decide) (by decide) (by decide) rfl rfl (fun v743 h744 J745 q746 => ?_)
      obtain ⟨rfl, rfl⟩ := q746
      show Wlk _ _ _ _ _ _ _ _ _ h709 5 14 102 #[.val (.int p1), .val (.int p2), .val (.int p3), .val (.int p4), .val (.int p5), .val (.ref s564), .val .null, .val (.ref x701), .val (.ref x712)] [(.int (1 : Int32))]
      refine Wlk.ifF (pc' := 105) at_102 (show ¬ ((1 : Int32) = (0 : Int32)) from by decide) rfl ?_
      refine Wlk.iconst (pc' := 106) (v := (1 : Int32)) at_105 rfl rfl ?_
      refine Wlk.goto (pc' := 110) at_106 (by decide) (by decide) ?_
      refine Wlk.ireturnN (t := .boolean) at_110 rfl (by simp) (by decide) (by decide) ?_
      exact rfl

set_option maxRecDepth 65536 in
set_option maxHeartbeats 40000000 in
theorem comes_1 {Post : Tables → Env → Array Value → State → Outcome → State → Prop} (hpost : ∀ tb e args s v u, (limb_1_1.after args s (.returned v) u = true ∧ limb_1_2.after args s (.returned v) u = true ∧ True) → ReturnedEndW s (.returned v) u (Jvm.fieldLocs frame_1_writes args s ++ Jvm.arrayLocs frame_1_arrays args s ++ Jvm.staticLocs frame_1_statics s) 32 1152 → Post tb e args s (.returned v) u) :
    ArmFor flags0 classFile x code maxLocals ret World_1 tables_1 room_1 Calls_1 rest_1 Pre_1 Post := by
  intro l hfl _ _ p e ha hc hk s m args below hf hA hF happ hP
  obtain ⟨hcalls, hrest, hpre⟩ := hP
  obtain ⟨-, -, -, hnamed, -, -, -, hat⟩ := (Spec.applies_iff hf).mp happ
  obtain ⟨hg, hn⟩ := and_e (Cond.before_iff.mp (show (Jvm.Cond.and given_1 narrow_1).before args s = true from hpre))
  obtain ⟨gc, gr0⟩ := and_e hg
  obtain ⟨ga0, gr1⟩ := and_e gr0
  obtain ⟨ga1, gr2⟩ := and_e gr1
  obtain ⟨ga2, gr3⟩ := and_e gr2
  obtain ⟨ga3, gr4⟩ := and_e gr3
  obtain ⟨w0, w1, w2, w3, w4, rfl⟩ : ∃ w0 w1 w2 w3 w4 : Value, args = #[w0, w1, w2, w3, w4] := by
    have hs : args.size = 5 := by simpa [Cond.value, given_1] using gc
    obtain ⟨L⟩ := args
    match L, hs with
    | [w0, w1, w2, w3, w4], _ => exact ⟨w0, w1, w2, w3, w4, rfl⟩
  have hw := fun d (hd : d ∈ tables_1) => atoms_spec (ws := Jvm.Cond.code x code maxLocals ret :: tables_1) hat d (List.mem_cons_of_mem _ hd)
  have hfit : Fit s := fun {y c} hc i hi => by
    obtain ⟨ha, rfl⟩ := Array.getElem?_eq_some_iff.mp hc
    have q := List.all_eq_true.mp ((Array.all_eq_true_iff_forall_mem.mp hF) _ (Array.getElem_mem ha)) i (List.mem_range.mpr hi)
    simpa [Array.getElem?_eq_getElem hi] using q
  obtain ⟨hsets, hown0⟩ := atoms_of _ (rest_1_c_eq ▸ (show rest_1_c.before _ s = true from hrest))
  obtain ⟨i0, ei0⟩ := is_v ga0
  obtain rfl : w0 = (.int i0) := Option.some.inj ei0
  obtain ⟨i1, ei1⟩ := is_v ga1
  obtain rfl : w1 = (.int i1) := Option.some.inj ei1
  obtain ⟨i2, ei2⟩ := is_v ga2
  obtain rfl : w2 = (.int i2) := Option.some.inj ei2
  obtain ⟨i3, ei3⟩ := is_v ga3
  obtain rfl : w3 = (.int i3) := Option.some.inj ei3
  obtain ⟨i4, ei4⟩ := is_v gr4
  obtain rfl : w4 = (.int i4) := Option.some.inj ei4
  have hs1 := Cond.before_iff.mp (hsets _ (List.mem_of_getElem? (i := 1) rfl))
  obtain ⟨zc, ezc⟩ := is_v hs1
  have O2 : Sta s s.heap "java/lang/String" "COMPACT_STRINGS" "Z" (.int zc) := Sta.start ezc (Or.inl (hsets _ (List.mem_of_getElem? (i := 0) rfl)))
  have P3 : ¬ zc = 0 := fun q => by
    have hn0 := not_v (Cond.before_iff.mp (hsets _ (List.mem_of_getElem? (i := 2) rfl)))
    subst q
    have e1 := eq_i ezc (Term.int_eval (0)) rfl
    rw [e1] at hn0
    cases hn0
  have wS : ∀ a ∈ Bundle.stringAtoms, a.before _ s = true := fun d hd => hw d ((by decide +kernel : ∀ d ∈ Bundle.stringAtoms, d ∈ tables_1) d hd)
  have hcw : Jvm.Lit.compactW.before _ s = true := hsets _ (List.mem_of_getElem? (i := 2) rfl)
  have hh_7 : Jvm.Lit.constHeld s "java/lang/String" 7 := hcalls.1 ("java/lang/String", 7) (List.mem_of_getElem? (i := 0) rfl)
  obtain ⟨ot, eot⟩ := exa_v (show (Jvm.Cond.exactly (Jvm.Term.static "com/example/strict_crosswalk/strictcrosswalk/description/Aspect$Part" "OTHER" "Lcom/example/strict_crosswalk/strictcrosswalk/description/Aspect$Part;") "com/example/strict_crosswalk/strictcrosswalk/description/Aspect$Part").value _ s none s [] = some true from hn)
  have OT : Sta s s.heap "com/example/strict_crosswalk/strictcrosswalk/description/Aspect$Part" "OTHER" "Lcom/example/strict_crosswalk/strictcrosswalk/description/Aspect$Part;" (.ref ot) := Sta.start eot (Or.inr ⟨hw _ (List.mem_of_getElem? (i := 33) rfl), hw _ (List.mem_of_getElem? (i := 34) rfl)⟩)
  obtain ⟨n, o, h1, h2, h3, v, L, J', rfl, ⟨hQ, N, -, -⟩, hq, hq'⟩ := rm_law (l := l) (Z := s) hw tables_1 i0 i1 i2 i3 i4 s.heap zc O2 P3 ot OT wS hcw hh_7 p e ha hc hk s m _ below hf ((Spec.applies_iff_loose hf).mp happ).1 ⟨rfl, State.Warmed39.refl s, rfl, ⟨Nat.le_refl _, fun _ _ q => q⟩, fun _ _ => ⟨IB.start, fun x hx => nomatch hx⟩⟩ trivial
  obtain rfl := hQ
  refine ⟨n, _, h1, h2, h3, hpost _ _ _ _ _ _ ⟨Cond.after_iff.mpr rfl, Cond.after_iff.mpr (eq_i res_at (Term.int_eval (1)) rfl), trivial⟩ ⟨⟨_, rfl⟩, hq.2.1, hq.2.2.1, (hq.2.2.2.sift fun y hy => Or.inr (N y hy)).mono (by decide) (by decide)⟩⟩
theorem main_1_1 : Claimed_1_1 := comes_1 fun _ _ _ _ _ _ h hF => ⟨h.1, hF⟩
theorem main_1_2 : Claimed_1_2 := comes_1 fun _ _ _ _ _ _ h hF => ⟨h.2.1, hF⟩

end Jvm.Pilot.@@N@@
namespace Jvm.Pilot.@@N@@
open Jvm Jvm.ClassFile Sem Op Lib Jvm.Free Jvm.Stand Jvm.Pilot.@@N@@.Jvm.D
/-! MADE BY PROGRAM (witnessworld.py) out of the Statement's table words and the real class files: 22 classes; the members and pool entries that the words name. The judged class is class 1, her method 3. -/
namespace start1
open Jvm.ClassFile
def u (s : String) : CpInfo := .utf8 (stringToUtf16 s)
/-- a pool by its gaps: so many unusable entries, then the entry; so many at the end -/
def gap : Nat → List CpInfo → List CpInfo
  | 0, r => r
  | n + 1, r => .unusable :: gap n r
def poolList (es : List (Nat × CpInfo)) (last : Nat) : List CpInfo := es.foldr (fun e r => gap e.1 (e.2 :: r)) (gap last [])
def pool (es : List (Nat × CpInfo)) (last : Nat) : Array CpInfo := ⟨poolList es last⟩
def fileOf (pool : Array CpInfo) (this : Nat) (attrs : Array Attribute := #[]) (ms : Array MethodInfo := #[]) (fl : Nat := 33) (sup : Nat := 0) (ifs : Array Nat := #[]) (fds : Array FieldInfo := #[]) : ClassFile where
  minorVersion := 0
  majorVersion := 65
  constantPool := pool
  accessFlags := fl
  thisClass := this
  superClass := sup
  interfaces := ifs
  fields := fds
  methods := ms
  attributes := attrs
def plain (name : String) (sup : Option ClassId) : Class where
  name := name
  kind := .ordinary
  loader := none
  accessFlags := 33
  super := sup
  interfaces := #[]
  cf := none
  fields := #[]
  methods := #[]
  instanceTypes := #[]
  staticTypes := #[]
  resolved := #[]
  callSites := []
  init := .initialized
  statics := none
  mirror := none

def pool0 : Array CpInfo := pool [(5, u "<init>"), (0, u "()V"), (1, .class_ 10), (1, u "java/lang/Object")] 113

def k0c0 : Code := { maxStack := 0, maxLocals := 1, code := object_method_1_code, exceptionTable := #[], attributes := #[] }
def k0m0 : Method := { name := "<init>", desc := "()V", sig := { parameters := [], returnType := none }, accessFlags := 1, code := some k0c0 }
/-- java/lang/Object -/
def k0 : Class := { plain "java/lang/Object" none with
  accessFlags := 33
  interfaces := #[]
  cf := some (fileOf pool0 8 #[] #[{ accessFlags := 1, nameIndex := 5, descriptorIndex := 6, attributes := #[] }] 33 0 #[] #[])
  fields := #[]
  methods := #[k0m0]
  instanceTypes := #[]
  staticTypes := #[]
  resolved := Array.replicate 124 none
  statics := none }

def pool1 : Array CpInfo := pool [(2, .class_ 4), (1, u "java/lang/Object"), (0, u "<init>"), (0, u "()V"), (0, .class_ 8), (0, u "java/lang/String"), (0, .methodref 7 10), (0, .nameAndType 5 11), (0, u "([C)V"), (0, .methodref 7 13), (0, .nameAndType 14 15), (0, u "equals"), (0, u "(Ljava/lang/Object;)Z"), (0, .methodref 17 18), (0, .class_ 19), (0, .nameAndType 20 21), (0, u "com/example/strict_crosswalk/strictcrosswalk/description/AspectOtherPinLaw"), (0, u "str"), (0, u "(IIII)Ljava/lang/String;"), (0, .methodref 23 24), (0, .class_ 25), (0, .nameAndType 26 27), (0, u "com/example/strict_crosswalk/strictcrosswalk/description/Aspect"), (0, u "other"), (0, u "(Ljava/lang/String;)Lcom/example/strict_crosswalk/strictcrosswalk/description/Aspect;"), (0, .methodref 23 29), (0, .nameAndType 30 31), (0, u "getPart"), (0, u "()Lcom/example/strict_crosswalk/strictcrosswalk/description/Aspect$Part;"), (0, .fieldref 33 34), (0, .class_ 35), (0, .nameAndType 36 37), (0, u "com/example/strict_crosswalk/strictcrosswalk/description/Aspect$Part"), (0, u "OTHER"), (0, u "Lcom/example/strict_crosswalk/strictcrosswalk/description/Aspect$Part;"), (0, .methodref 23 39), (0, .nameAndType 40 41), (0, u "getName"), (0, u "()Ljava/lang/String;"), (0, .methodref 17 43), (0, .nameAndType 44 45), (0, u "sameName"), (0, u "(Ljava/lang/String;Ljava/lang/String;)Z"), (3, u "law"), (0, u "(IIIII)Z")] 4

def k1m0 : Method := { name := "<init>", desc := "()V", sig := { parameters := [], returnType := none }, accessFlags := 1, code := none }
def k1c1 : Code := { maxStack := 6, maxLocals := 7, code := method_2_code, exceptionTable := #[], attributes := #[] }
def k1m1 : Method := { name := "str", desc := "(IIII)Ljava/lang/String;", sig := { parameters := [.int, .int, .int, .int], returnType := some (.object "java/lang/String") }, accessFlags := 10, code := some k1c1 }
def k1c2 : Code := { maxStack := 2, maxLocals := 2, code := method_3_code, exceptionTable := #[], attributes := #[] }
def k1m2 : Method := { name := "sameName", desc := "(Ljava/lang/String;Ljava/lang/String;)Z", sig := { parameters := [(.object "java/lang/String"), (.object "java/lang/String")], returnType := some .boolean }, accessFlags := 10, code := some k1c2 }
def k1c3 : Code := { maxStack := 5, maxLocals := 9, code := code, exceptionTable := #[], attributes := #[] }
def k1m3 : Method := { name := "law", desc := "(IIIII)Z", sig := { parameters := [.int, .int, .int, .int, .int], returnType := some .boolean }, accessFlags := 9, code := some k1c3 }
/-- com/example/strict_crosswalk/strictcrosswalk/description/AspectOtherPinLaw -/
def k1 : Class := { plain "com/example/strict_crosswalk/strictcrosswalk/description/AspectOtherPinLaw" (some 0) with
  accessFlags := 49
  interfaces := #[]
  cf := some (fileOf pool1 17 #[] #[{ accessFlags := 1, nameIndex := 5, descriptorIndex := 6, attributes := #[] }, { accessFlags := 10, nameIndex := 20, descriptorIndex := 21, attributes := #[] }, { accessFlags := 10, nameIndex := 44, descriptorIndex := 45, attributes := #[] }, { accessFlags := 9, nameIndex := 49, descriptorIndex := 50, attributes := #[] }] 49 2 #[] #[])
  fields := #[]
  methods := #[k1m0, k1m1, k1m2, k1m3]
  instanceTypes := #[]
  staticTypes := #[]
  resolved := Array.replicate 55 none
  statics := none }

def pool2 : Array CpInfo := pool [(1, .class_ 2), (0, u "java/io/Serializable"), (0, .class_ 4), (0, u "java/lang/Object")] 2

/-- java/io/Serializable -/
def k2 : Class := { plain "java/io/Serializable" (some 0) with
  accessFlags := 1537
  interfaces := #[]
  cf := some (fileOf pool2 1 #[] #[] 1537 3 #[] #[])
  fields := #[]
  methods := #[]
  instanceTypes := #[]
  staticTypes := #[]
  resolved := Array.replicate 7 none
  statics := none }

def pool3 : Array CpInfo := pool [(1, .class_ 2), (0, u "java/lang/Comparable"), (0, .class_ 4), (0, u "java/lang/Object")] 7

/-- java/lang/Comparable -/
def k3 : Class := { plain "java/lang/Comparable" (some 0) with
  accessFlags := 1537
  interfaces := #[]
  cf := some (fileOf pool3 1 #[] #[] 1537 3 #[] #[])
  fields := #[]
  methods := #[]
  instanceTypes := #[]
  staticTypes := #[]
  resolved := Array.replicate 12 none
  statics := none }

def pool4 : Array CpInfo := pool [(2, .class_ 4), (1, u "java/lang/CharSequence"), (42, .class_ 48), (0, u "java/lang/CharSequence$1CodePointIterator"), (10, .class_ 60), (0, u "java/lang/CharSequence$1CharIterator"), (5, .class_ 67), (0, u "java/lang/Object")] 63

/-- java/lang/CharSequence -/
def k4 : Class := { plain "java/lang/CharSequence" (some 0) with
  accessFlags := 1537
  interfaces := #[]
  cf := some (fileOf pool4 2 #[.nestMembers #[47, 59]] #[] 1537 66 #[] #[])
  fields := #[]
  methods := #[]
  instanceTypes := #[]
  staticTypes := #[]
  resolved := Array.replicate 131 none
  statics := none }

def pool5 : Array CpInfo := pool [(1, .class_ 2), (0, u "java/lang/constant/Constable"), (0, .class_ 4), (0, u "java/lang/Object")] 6

/-- java/lang/constant/Constable -/
def k5 : Class := { plain "java/lang/constant/Constable" (some 0) with
  accessFlags := 1537
  interfaces := #[]
  cf := some (fileOf pool5 1 #[] #[] 1537 3 #[] #[])
  fields := #[]
  methods := #[]
  instanceTypes := #[]
  staticTypes := #[]
  resolved := Array.replicate 11 none
  statics := none }

def pool6 : Array CpInfo := pool [(1, .class_ 2), (0, u "java/lang/constant/ConstantDesc"), (0, .class_ 4), (0, u "java/lang/Object")] 32

/-- java/lang/constant/ConstantDesc -/
def k6 : Class := { plain "java/lang/constant/ConstantDesc" (some 0) with
  accessFlags := 1537
  interfaces := #[]
  cf := some (fileOf pool6 1 #[] #[] 1537 3 #[] #[])
  fields := #[]
  methods := #[]
  instanceTypes := #[]
  staticTypes := #[]
  resolved := Array.replicate 37 none
  statics := none }

def pool7 : Array CpInfo := pool [(1, .methodref 2 3), (0, .class_ 4), (0, .nameAndType 5 6), (0, u "java/lang/Object"), (0, u "<init>"), (0, u "()V"), (0, .string 8), (0, u ""), (0, .fieldref 10 11), (0, .class_ 12), (0, .nameAndType 13 14), (0, u "java/lang/String"), (0, u "value"), (0, u "[B"), (0, .fieldref 10 16), (0, .nameAndType 17 18), (0, u "coder"), (0, u "B"), (2, u "hash"), (0, u "I"), (2, u "hashIsZero"), (0, u "Z"), (0, .methodref 10 28), (0, .nameAndType 5 29), (0, u "([CIILjava/lang/Void;)V"), (8, .fieldref 10 39), (0, .nameAndType 40 26), (0, u "COMPACT_STRINGS"), (1, .class_ 44), (1, u "java/lang/StringUTF16"), (0, u "compress"), (1, .methodref 42 48), (0, .nameAndType 49 50), (0, u "coderFromArrayLen"), (0, u "([BI)B"), (126, .methodref 42 178), (0, .nameAndType 45 179), (0, u "([CII)[B"), (363, u "equals"), (29, u "(Ljava/lang/Object;)Z"), (1, .class_ 576), (0, u "java/lang/CharSequence"), (22, u "CASE_INSENSITIVE_ORDER"), (0, u "Ljava/util/Comparator;"), (409, u "([C)V"), (90, u "serialPersistentFields"), (0, u "[Ljava/io/ObjectStreamField;"), (0, .class_ 1104), (0, u "java/lang/String$CaseInsensitiveComparator"), (1, .class_ 1107), (0, u "java/io/Serializable"), (0, .class_ 1109), (0, u "java/lang/Comparable"), (0, .class_ 1111), (0, u "java/lang/constant/Constable"), (0, .class_ 1113), (0, u "java/lang/constant/ConstantDesc"), (2, u "serialVersionUID"), (0, u "J"), (3, u "REPL"), (0, u "C"), (2, u "LATIN1"), (1, u "UTF16")] 323

def k7m0 : Method := { name := "<init>", desc := "()V", sig := { parameters := [], returnType := none }, accessFlags := 1, code := none }
def k7c1 : Code := { maxStack := 5, maxLocals := 2, code := jdk_42_method_3_code, exceptionTable := #[], attributes := #[] }
def k7m1 : Method := { name := "<init>", desc := "([C)V", sig := { parameters := [(.array .char)], returnType := none }, accessFlags := 1, code := some k7c1 }
def k7c2 : Code := { maxStack := 2, maxLocals := 3, code := jdk_42_method_66_code, exceptionTable := #[], attributes := #[] }
def k7m2 : Method := { name := "equals", desc := "(Ljava/lang/Object;)Z", sig := { parameters := [(.object "java/lang/Object")], returnType := some .boolean }, accessFlags := 1, code := some k7c2 }
def k7c3 : Code := { maxStack := 4, maxLocals := 6, code := jdk_42_method_149_code, exceptionTable := #[], attributes := #[] }
def k7m3 : Method := { name := "<init>", desc := "([CIILjava/lang/Void;)V", sig := { parameters := [(.array .char), .int, .int, (.object "java/lang/Void")], returnType := none }, accessFlags := 2, code := some k7c3 }
/-- java/lang/String -/
def k7 : Class := { plain "java/lang/String" (some 0) with
  accessFlags := 49
  interfaces := #[2, 3, 4, 5, 6]
  cf := some (fileOf pool7 10 #[.nestMembers #[1103]] #[{ accessFlags := 1, nameIndex := 5, descriptorIndex := 6, attributes := #[] }, { accessFlags := 1, nameIndex := 5, descriptorIndex := 1010, attributes := #[] }, { accessFlags := 1, nameIndex := 543, descriptorIndex := 573, attributes := #[] }, { accessFlags := 2, nameIndex := 5, descriptorIndex := 29, attributes := #[] }] 49 2 #[1106, 1108, 575, 1110, 1112] #[{ accessFlags := 18, nameIndex := 13, descriptorIndex := 14, attributes := #[] }, { accessFlags := 18, nameIndex := 17, descriptorIndex := 18, attributes := #[] }, { accessFlags := 2, nameIndex := 21, descriptorIndex := 22, attributes := #[] }, { accessFlags := 2, nameIndex := 25, descriptorIndex := 26, attributes := #[] }, { accessFlags := 26, nameIndex := 1116, descriptorIndex := 1117, attributes := #[] }, { accessFlags := 24, nameIndex := 40, descriptorIndex := 26, attributes := #[] }, { accessFlags := 26, nameIndex := 1101, descriptorIndex := 1102, attributes := #[] }, { accessFlags := 26, nameIndex := 1121, descriptorIndex := 1122, attributes := #[] }, { accessFlags := 25, nameIndex := 599, descriptorIndex := 600, attributes := #[] }, { accessFlags := 24, nameIndex := 1125, descriptorIndex := 18, attributes := #[] }, { accessFlags := 24, nameIndex := 1127, descriptorIndex := 18, attributes := #[] }])
  fields := #[{ name := "value", type := (.array .byte), accessFlags := 18, slot := 0, constantValue := 0 }, { name := "coder", type := .byte, accessFlags := 18, slot := 1, constantValue := 0 }, { name := "hash", type := .int, accessFlags := 2, slot := 2, constantValue := 0 }, { name := "hashIsZero", type := .boolean, accessFlags := 2, slot := 3, constantValue := 0 }, { name := "serialVersionUID", type := .long, accessFlags := 26, slot := 0, constantValue := 0 }, { name := "COMPACT_STRINGS", type := .boolean, accessFlags := 24, slot := 1, constantValue := 0 }, { name := "serialPersistentFields", type := (.array (.object "java/io/ObjectStreamField")), accessFlags := 26, slot := 2, constantValue := 0 }, { name := "REPL", type := .char, accessFlags := 26, slot := 3, constantValue := 0 }, { name := "CASE_INSENSITIVE_ORDER", type := (.object "java/util/Comparator"), accessFlags := 25, slot := 4, constantValue := 0 }, { name := "LATIN1", type := .byte, accessFlags := 24, slot := 5, constantValue := 0 }, { name := "UTF16", type := .byte, accessFlags := 24, slot := 6, constantValue := 0 }]
  methods := #[k7m0, k7m1, k7m2, k7m3]
  instanceTypes := #[(.array .byte), .byte, .int, .boolean]
  staticTypes := #[.long, .boolean, (.array (.object "java/io/ObjectStreamField")), .char, (.object "java/util/Comparator"), .byte, .byte]
  resolved := Array.replicate 1451 none
  statics := some 0 }

def pool8 : Array CpInfo := pool [(1, .methodref 2 3), (0, .class_ 4), (0, .nameAndType 5 6), (0, u "java/lang/Object"), (0, u "<init>"), (0, u "()V"), (0, .fieldref 8 9), (0, .class_ 10), (0, .nameAndType 11 12), (0, u "com/example/strict_crosswalk/strictcrosswalk/description/Aspect"), (0, u "part"), (0, u "Lcom/example/strict_crosswalk/strictcrosswalk/description/Aspect$Part;"), (0, .fieldref 8 14), (0, .nameAndType 15 16), (0, u "name"), (0, u "Ljava/lang/String;"), (0, .methodref 8 18), (0, .nameAndType 5 19), (0, u "(Lcom/example/strict_crosswalk/strictcrosswalk/description/Aspect$Part;Ljava/lang/String;)V"), (0, .fieldref 21 22), (0, .class_ 23), (0, .nameAndType 24 12), (0, u "com/example/strict_crosswalk/strictcrosswalk/description/Aspect$Part"), (0, u "OTHER"), (4, u "other"), (0, u "(Ljava/lang/String;)Lcom/example/strict_crosswalk/strictcrosswalk/description/Aspect;"), (2, u "UNNAMED"), (0, u "Lcom/example/strict_crosswalk/strictcrosswalk/description/Aspect;"), (6, u "getPart"), (0, u "()Lcom/example/strict_crosswalk/strictcrosswalk/description/Aspect$Part;"), (0, u "getName"), (0, u "()Ljava/lang/String;")] 6

def k8c0 : Code := { maxStack := 2, maxLocals := 3, code := prog_11_method_1_code, exceptionTable := #[], attributes := #[] }
def k8m0 : Method := { name := "<init>", desc := "(Lcom/example/strict_crosswalk/strictcrosswalk/description/Aspect$Part;Ljava/lang/String;)V", sig := { parameters := [(.object "com/example/strict_crosswalk/strictcrosswalk/description/Aspect$Part"), (.object "java/lang/String")], returnType := none }, accessFlags := 2, code := some k8c0 }
def k8c1 : Code := { maxStack := 4, maxLocals := 1, code := prog_11_method_4_code, exceptionTable := #[], attributes := #[] }
def k8m1 : Method := { name := "other", desc := "(Ljava/lang/String;)Lcom/example/strict_crosswalk/strictcrosswalk/description/Aspect;", sig := { parameters := [(.object "java/lang/String")], returnType := some (.object "com/example/strict_crosswalk/strictcrosswalk/description/Aspect") }, accessFlags := 9, code := some k8c1 }
def k8c2 : Code := { maxStack := 1, maxLocals := 1, code := prog_11_method_5_code, exceptionTable := #[], attributes := #[] }
def k8m2 : Method := { name := "getPart", desc := "()Lcom/example/strict_crosswalk/strictcrosswalk/description/Aspect$Part;", sig := { parameters := [], returnType := some (.object "com/example/strict_crosswalk/strictcrosswalk/description/Aspect$Part") }, accessFlags := 1, code := some k8c2 }
def k8c3 : Code := { maxStack := 1, maxLocals := 1, code := prog_11_method_6_code, exceptionTable := #[], attributes := #[] }
def k8m3 : Method := { name := "getName", desc := "()Ljava/lang/String;", sig := { parameters := [], returnType := some (.object "java/lang/String") }, accessFlags := 1, code := some k8c3 }
/-- com/example/strict_crosswalk/strictcrosswalk/description/Aspect -/
def k8 : Class := { plain "com/example/strict_crosswalk/strictcrosswalk/description/Aspect" (some 0) with
  accessFlags := 33
  interfaces := #[]
  cf := some (fileOf pool8 8 #[.nestMembers #[21]] #[{ accessFlags := 2, nameIndex := 5, descriptorIndex := 19, attributes := #[] }, { accessFlags := 9, nameIndex := 29, descriptorIndex := 30, attributes := #[] }, { accessFlags := 1, nameIndex := 41, descriptorIndex := 42, attributes := #[] }, { accessFlags := 1, nameIndex := 43, descriptorIndex := 44, attributes := #[] }] 33 2 #[] #[{ accessFlags := 25, nameIndex := 33, descriptorIndex := 34, attributes := #[] }, { accessFlags := 18, nameIndex := 11, descriptorIndex := 12, attributes := #[] }, { accessFlags := 18, nameIndex := 15, descriptorIndex := 16, attributes := #[] }])
  fields := #[{ name := "UNNAMED", type := (.object "com/example/strict_crosswalk/strictcrosswalk/description/Aspect"), accessFlags := 25, slot := 0, constantValue := 0 }, { name := "part", type := (.object "com/example/strict_crosswalk/strictcrosswalk/description/Aspect$Part"), accessFlags := 18, slot := 0, constantValue := 0 }, { name := "name", type := (.object "java/lang/String"), accessFlags := 18, slot := 1, constantValue := 0 }]
  methods := #[k8m0, k8m1, k8m2, k8m3]
  instanceTypes := #[(.object "com/example/strict_crosswalk/strictcrosswalk/description/Aspect$Part"), (.object "java/lang/String")]
  staticTypes := #[(.object "com/example/strict_crosswalk/strictcrosswalk/description/Aspect")]
  resolved := Array.replicate 51 none
  statics := none }

def pool9 : Array CpInfo := pool [(2, .class_ 4), (1, u "java/lang/Enum"), (0, u "name"), (0, u "Ljava/lang/String;"), (2, u "ordinal"), (0, u "I"), (1, .class_ 14), (1, u "java/lang/Object"), (4, u "hash"), (86, .class_ 108), (1, u "java/lang/Enum$EnumDesc"), (2, .class_ 112), (0, u "java/lang/constant/Constable"), (0, .class_ 114), (0, u "java/lang/Comparable"), (0, .class_ 116), (0, u "java/io/Serializable")] 87

/-- java/lang/Enum -/
def k9 : Class := { plain "java/lang/Enum" (some 0) with
  accessFlags := 1057
  interfaces := #[5, 3, 2]
  cf := some (fileOf pool9 2 #[.nestMembers #[106]] #[] 1057 12 #[111, 113, 115] #[{ accessFlags := 18, nameIndex := 5, descriptorIndex := 6, attributes := #[] }, { accessFlags := 18, nameIndex := 9, descriptorIndex := 10, attributes := #[] }, { accessFlags := 2, nameIndex := 19, descriptorIndex := 10, attributes := #[] }])
  fields := #[{ name := "name", type := (.object "java/lang/String"), accessFlags := 18, slot := 0, constantValue := 0 }, { name := "ordinal", type := .int, accessFlags := 18, slot := 1, constantValue := 0 }, { name := "hash", type := .int, accessFlags := 2, slot := 2, constantValue := 0 }]
  methods := #[]
  instanceTypes := #[(.object "java/lang/String"), .int, .int]
  staticTypes := #[]
  resolved := Array.replicate 204 none
  statics := none }

def pool10 : Array CpInfo := pool [(1, .class_ 2), (0, u "com/example/strict_crosswalk/strictcrosswalk/description/Aspect$Part"), (2, u "RECORD_IDENTIFIER"), (0, u "Lcom/example/strict_crosswalk/strictcrosswalk/description/Aspect$Part;"), (2, u "SECOND_DOI"), (2, u "ALTERNATE_IDENTIFIERS"), (2, u "TITLES"), (2, u "DESCRIPTIONS"), (2, u "SUBJECTS"), (2, u "PUBLISHER"), (2, u "PUBLICATION_YEAR"), (2, u "DATES"), (2, u "LANGUAGES"), (2, u "RELATED_WORKS"), (2, u "LANDING_PAGE"), (2, u "FORMATS"), (2, u "RIGHTS"), (2, u "VERSION"), (2, u "RESOURCE_TYPE"), (2, u "PARENT_STUDIES"), (2, u "CREATORS"), (2, u "CONTRIBUTORS"), (2, u "FUNDING"), (2, u "PLACES"), (2, u "SIZES"), (2, u "SCHEMA_VERSION"), (2, u "OTHER"), (2, u "$VALUES"), (0, u "[Lcom/example/strict_crosswalk/strictcrosswalk/description/Aspect$Part;"), (6, .class_ 88), (1, u "java/lang/Enum"), (47, .class_ 137), (0, u "com/example/strict_crosswalk/strictcrosswalk/description/Aspect")] 2

/-- com/example/strict_crosswalk/strictcrosswalk/description/Aspect$Part -/
def k10 : Class := { plain "com/example/strict_crosswalk/strictcrosswalk/description/Aspect$Part" (some 9) with
  accessFlags := 16433
  interfaces := #[]
  cf := some (fileOf pool10 1 #[.nestHost 136] #[] 16433 86 #[] #[{ accessFlags := 16409, nameIndex := 5, descriptorIndex := 6, attributes := #[] }, { accessFlags := 16409, nameIndex := 9, descriptorIndex := 6, attributes := #[] }, { accessFlags := 16409, nameIndex := 12, descriptorIndex := 6, attributes := #[] }, { accessFlags := 16409, nameIndex := 15, descriptorIndex := 6, attributes := #[] }, { accessFlags := 16409, nameIndex := 18, descriptorIndex := 6, attributes := #[] }, { accessFlags := 16409, nameIndex := 21, descriptorIndex := 6, attributes := #[] }, { accessFlags := 16409, nameIndex := 24, descriptorIndex := 6, attributes := #[] }, { accessFlags := 16409, nameIndex := 27, descriptorIndex := 6, attributes := #[] }, { accessFlags := 16409, nameIndex := 30, descriptorIndex := 6, attributes := #[] }, { accessFlags := 16409, nameIndex := 33, descriptorIndex := 6, attributes := #[] }, { accessFlags := 16409, nameIndex := 36, descriptorIndex := 6, attributes := #[] }, { accessFlags := 16409, nameIndex := 39, descriptorIndex := 6, attributes := #[] }, { accessFlags := 16409, nameIndex := 42, descriptorIndex := 6, attributes := #[] }, { accessFlags := 16409, nameIndex := 45, descriptorIndex := 6, attributes := #[] }, { accessFlags := 16409, nameIndex := 48, descriptorIndex := 6, attributes := #[] }, { accessFlags := 16409, nameIndex := 51, descriptorIndex := 6, attributes := #[] }, { accessFlags := 16409, nameIndex := 54, descriptorIndex := 6, attributes := #[] }, { accessFlags := 16409, nameIndex := 57, descriptorIndex := 6, attributes := #[] }, { accessFlags := 16409, nameIndex := 60, descriptorIndex := 6, attributes := #[] }, { accessFlags := 16409, nameIndex := 63, descriptorIndex := 6, attributes := #[] }, { accessFlags := 16409, nameIndex := 66, descriptorIndex := 6, attributes := #[] }, { accessFlags := 16409, nameIndex := 69, descriptorIndex := 6, attributes := #[] }, { accessFlags := 16409, nameIndex := 72, descriptorIndex := 6, attributes := #[] }, { accessFlags := 16409, nameIndex := 75, descriptorIndex := 6, attributes := #[] }, { accessFlags := 4122, nameIndex := 78, descriptorIndex := 79, attributes := #[] }])
  fields := #[{ name := "RECORD_IDENTIFIER", type := (.object "com/example/strict_crosswalk/strictcrosswalk/description/Aspect$Part"), accessFlags := 16409, slot := 0, constantValue := 0 }, { name := "SECOND_DOI", type := (.object "com/example/strict_crosswalk/strictcrosswalk/description/Aspect$Part"), accessFlags := 16409, slot := 1, constantValue := 0 }, { name := "ALTERNATE_IDENTIFIERS", type := (.object "com/example/strict_crosswalk/strictcrosswalk/description/Aspect$Part"), accessFlags := 16409, slot := 2, constantValue := 0 }, { name := "TITLES", type := (.object "com/example/strict_crosswalk/strictcrosswalk/description/Aspect$Part"), accessFlags := 16409, slot := 3, constantValue := 0 }, { name := "DESCRIPTIONS", type := (.object "com/example/strict_crosswalk/strictcrosswalk/description/Aspect$Part"), accessFlags := 16409, slot := 4, constantValue := 0 }, { name := "SUBJECTS", type := (.object "com/example/strict_crosswalk/strictcrosswalk/description/Aspect$Part"), accessFlags := 16409, slot := 5, constantValue := 0 }, { name := "PUBLISHER", type := (.object "com/example/strict_crosswalk/strictcrosswalk/description/Aspect$Part"), accessFlags := 16409, slot := 6, constantValue := 0 }, { name := "PUBLICATION_YEAR", type := (.object "com/example/strict_crosswalk/strictcrosswalk/description/Aspect$Part"), accessFlags := 16409, slot := 7, constantValue := 0 }, { name := "DATES", type := (.object "com/example/strict_crosswalk/strictcrosswalk/description/Aspect$Part"), accessFlags := 16409, slot := 8, constantValue := 0 }, { name := "LANGUAGES", type := (.object "com/example/strict_crosswalk/strictcrosswalk/description/Aspect$Part"), accessFlags := 16409, slot := 9, constantValue := 0 }, { name := "RELATED_WORKS", type := (.object "com/example/strict_crosswalk/strictcrosswalk/description/Aspect$Part"), accessFlags := 16409, slot := 10, constantValue := 0 }, { name := "LANDING_PAGE", type := (.object "com/example/strict_crosswalk/strictcrosswalk/description/Aspect$Part"), accessFlags := 16409, slot := 11, constantValue := 0 }, { name := "FORMATS", type := (.object "com/example/strict_crosswalk/strictcrosswalk/description/Aspect$Part"), accessFlags := 16409, slot := 12, constantValue := 0 }, { name := "RIGHTS", type := (.object "com/example/strict_crosswalk/strictcrosswalk/description/Aspect$Part"), accessFlags := 16409, slot := 13, constantValue := 0 }, { name := "VERSION", type := (.object "com/example/strict_crosswalk/strictcrosswalk/description/Aspect$Part"), accessFlags := 16409, slot := 14, constantValue := 0 }, { name := "RESOURCE_TYPE", type := (.object "com/example/strict_crosswalk/strictcrosswalk/description/Aspect$Part"), accessFlags := 16409, slot := 15, constantValue := 0 }, { name := "PARENT_STUDIES", type := (.object "com/example/strict_crosswalk/strictcrosswalk/description/Aspect$Part"), accessFlags := 16409, slot := 16, constantValue := 0 }, { name := "CREATORS", type := (.object "com/example/strict_crosswalk/strictcrosswalk/description/Aspect$Part"), accessFlags := 16409, slot := 17, constantValue := 0 }, { name := "CONTRIBUTORS", type := (.object "com/example/strict_crosswalk/strictcrosswalk/description/Aspect$Part"), accessFlags := 16409, slot := 18, constantValue := 0 }, { name := "FUNDING", type := (.object "com/example/strict_crosswalk/strictcrosswalk/description/Aspect$Part"), accessFlags := 16409, slot := 19, constantValue := 0 }, { name := "PLACES", type := (.object "com/example/strict_crosswalk/strictcrosswalk/description/Aspect$Part"), accessFlags := 16409, slot := 20, constantValue := 0 }, { name := "SIZES", type := (.object "com/example/strict_crosswalk/strictcrosswalk/description/Aspect$Part"), accessFlags := 16409, slot := 21, constantValue := 0 }, { name := "SCHEMA_VERSION", type := (.object "com/example/strict_crosswalk/strictcrosswalk/description/Aspect$Part"), accessFlags := 16409, slot := 22, constantValue := 0 }, { name := "OTHER", type := (.object "com/example/strict_crosswalk/strictcrosswalk/description/Aspect$Part"), accessFlags := 16409, slot := 23, constantValue := 0 }, { name := "$VALUES", type := (.array (.object "com/example/strict_crosswalk/strictcrosswalk/description/Aspect$Part")), accessFlags := 4122, slot := 24, constantValue := 0 }]
  methods := #[]
  instanceTypes := #[(.object "java/lang/String"), .int, .int]
  staticTypes := #[(.object "com/example/strict_crosswalk/strictcrosswalk/description/Aspect$Part"), (.object "com/example/strict_crosswalk/strictcrosswalk/description/Aspect$Part"), (.object "com/example/strict_crosswalk/strictcrosswalk/description/Aspect$Part"), (.object "com/example/strict_crosswalk/strictcrosswalk/description/Aspect$Part"), (.object "com/example/strict_crosswalk/strictcrosswalk/description/Aspect$Part"), (.object "com/example/strict_crosswalk/strictcrosswalk/description/Aspect$Part"), (.object "com/example/strict_crosswalk/strictcrosswalk/description/Aspect$Part"), (.object "com/example/strict_crosswalk/strictcrosswalk/description/Aspect$Part"), (.object "com/example/strict_crosswalk/strictcrosswalk/description/Aspect$Part"), (.object "com/example/strict_crosswalk/strictcrosswalk/description/Aspect$Part"), (.object "com/example/strict_crosswalk/strictcrosswalk/description/Aspect$Part"), (.object "com/example/strict_crosswalk/strictcrosswalk/description/Aspect$Part"), (.object "com/example/strict_crosswalk/strictcrosswalk/description/Aspect$Part"), (.object "com/example/strict_crosswalk/strictcrosswalk/description/Aspect$Part"), (.object "com/example/strict_crosswalk/strictcrosswalk/description/Aspect$Part"), (.object "com/example/strict_crosswalk/strictcrosswalk/description/Aspect$Part"), (.object "com/example/strict_crosswalk/strictcrosswalk/description/Aspect$Part"), (.object "com/example/strict_crosswalk/strictcrosswalk/description/Aspect$Part"), (.object "com/example/strict_crosswalk/strictcrosswalk/description/Aspect$Part"), (.object "com/example/strict_crosswalk/strictcrosswalk/description/Aspect$Part"), (.object "com/example/strict_crosswalk/strictcrosswalk/description/Aspect$Part"), (.object "com/example/strict_crosswalk/strictcrosswalk/description/Aspect$Part"), (.object "com/example/strict_crosswalk/strictcrosswalk/description/Aspect$Part"), (.object "com/example/strict_crosswalk/strictcrosswalk/description/Aspect$Part"), (.array (.object "com/example/strict_crosswalk/strictcrosswalk/description/Aspect$Part"))]
  resolved := Array.replicate 140 none
  statics := some 1 }

def pool11 : Array CpInfo := pool [(6, .class_ 8), (1, u "java/lang/Object"), (0, u "<init>"), (0, u "()V"), (1, .class_ 14), (1, u "java/lang/StringUTF16"), (31, u "$assertionsDisabled"), (0, u "Z"), (13, u "HI_BYTE_SHIFT"), (0, u "I"), (2, u "LO_BYTE_SHIFT"), (49, .methodref 12 116), (0, .nameAndType 117 118), (0, u "compress"), (0, u "([CI[BII)I"), (3, u "([CII)[B"), (138, u "coderFromArrayLen"), (0, u "([BI)B"), (106, .class_ 371), (1, u "java/lang/StringUTF16$LinesSpliterator"), (58, u "MAX_LENGTH"), (196, .class_ 628), (0, u "java/lang/StringUTF16$CodePointsSpliterator"), (0, .class_ 630), (0, u "java/lang/StringUTF16$CharsSpliterator")] 4

def k11m0 : Method := { name := "<init>", desc := "()V", sig := { parameters := [], returnType := none }, accessFlags := 0, code := none }
def k11c1 : Code := { maxStack := 2, maxLocals := 2, code := jdk_52_method_15_code, exceptionTable := #[], attributes := #[] }
def k11m1 : Method := { name := "coderFromArrayLen", desc := "([BI)B", sig := { parameters := [(.array .byte), .int], returnType := some .byte }, accessFlags := 8, code := some k11c1 }
def k11c2 : Code := { maxStack := 5, maxLocals := 6, code := jdk_52_method_16_code, exceptionTable := #[], attributes := #[] }
def k11m2 : Method := { name := "compress", desc := "([CII)[B", sig := { parameters := [(.array .char), .int, .int], returnType := some (.array .byte) }, accessFlags := 9, code := some k11c2 }
def k11c3 : Code := { maxStack := 3, maxLocals := 7, code := jdk_52_method_21_code, exceptionTable := #[], attributes := #[] }
def k11m3 : Method := { name := "compress", desc := "([CI[BII)I", sig := { parameters := [(.array .char), .int, (.array .byte), .int, .int], returnType := some .int }, accessFlags := 9, code := some k11c3 }
/-- java/lang/StringUTF16 -/
def k11 : Class := { plain "java/lang/StringUTF16" (some 0) with
  accessFlags := 48
  interfaces := #[]
  cf := some (fileOf pool11 12 #[.nestMembers #[627, 629, 369]] #[{ accessFlags := 0, nameIndex := 9, descriptorIndex := 10, attributes := #[] }, { accessFlags := 8, nameIndex := 261, descriptorIndex := 262, attributes := #[] }, { accessFlags := 9, nameIndex := 117, descriptorIndex := 122, attributes := #[] }, { accessFlags := 9, nameIndex := 117, descriptorIndex := 118, attributes := #[] }] 48 6 #[] #[{ accessFlags := 26, nameIndex := 61, descriptorIndex := 62, attributes := #[] }, { accessFlags := 26, nameIndex := 65, descriptorIndex := 62, attributes := #[] }, { accessFlags := 24, nameIndex := 430, descriptorIndex := 62, attributes := #[] }, { accessFlags := 4120, nameIndex := 46, descriptorIndex := 47, attributes := #[] }])
  fields := #[{ name := "HI_BYTE_SHIFT", type := .int, accessFlags := 26, slot := 0, constantValue := 0 }, { name := "LO_BYTE_SHIFT", type := .int, accessFlags := 26, slot := 1, constantValue := 0 }, { name := "MAX_LENGTH", type := .int, accessFlags := 24, slot := 2, constantValue := 0 }, { name := "$assertionsDisabled", type := .boolean, accessFlags := 4120, slot := 3, constantValue := 0 }]
  methods := #[k11m0, k11m1, k11m2, k11m3]
  instanceTypes := #[]
  staticTypes := #[.int, .int, .int, .boolean]
  resolved := Array.replicate 635 none
  statics := none }

def pool12 : Array CpInfo := pool [(4, .class_ 6), (1, u "java/lang/Object"), (0, u "<init>"), (0, u "()V"), (5, .class_ 16), (1, u "java/lang/StringLatin1"), (104, u "$assertionsDisabled"), (0, u "Z"), (98, .class_ 223), (1, u "java/lang/StringLatin1$LinesSpliterator"), (166, .class_ 391), (0, u "java/lang/StringLatin1$CharsSpliterator")] 3

def k12m0 : Method := { name := "<init>", desc := "()V", sig := { parameters := [], returnType := none }, accessFlags := 0, code := none }
/-- java/lang/StringLatin1 -/
def k12 : Class := { plain "java/lang/StringLatin1" (some 0) with
  accessFlags := 48
  interfaces := #[]
  cf := some (fileOf pool12 14 #[.nestMembers #[390, 221]] #[{ accessFlags := 0, nameIndex := 7, descriptorIndex := 8, attributes := #[] }] 48 4 #[] #[{ accessFlags := 4120, nameIndex := 121, descriptorIndex := 122, attributes := #[] }])
  fields := #[{ name := "$assertionsDisabled", type := .boolean, accessFlags := 4120, slot := 0, constantValue := 0 }]
  methods := #[k12m0]
  instanceTypes := #[]
  staticTypes := #[.boolean]
  resolved := Array.replicate 395 none
  statics := none }

def pool13 : Array CpInfo := pool [(2, .class_ 4), (1, u "java/lang/Object"), (0, u "<init>"), (0, u "()V"), (17, .class_ 26), (1, u "jdk/internal/util/Preconditions"), (28, .class_ 56), (0, u "jdk/internal/util/Preconditions$4"), (57, .class_ 115), (0, u "jdk/internal/util/Preconditions$1"), (7, u "SIOOBE_FORMATTER"), (0, u "Ljava/util/function/BiFunction;"), (0, .class_ 126), (0, u "jdk/internal/util/Preconditions$2"), (3, u "AIOOBE_FORMATTER"), (0, .class_ 132), (0, u "jdk/internal/util/Preconditions$3"), (3, u "IOOBE_FORMATTER")] 57

def k13m0 : Method := { name := "<init>", desc := "()V", sig := { parameters := [], returnType := none }, accessFlags := 1, code := none }
/-- jdk/internal/util/Preconditions -/
def k13 : Class := { plain "jdk/internal/util/Preconditions" (some 0) with
  accessFlags := 33
  interfaces := #[]
  cf := some (fileOf pool13 24 #[.nestMembers #[55, 131, 125, 114]] #[{ accessFlags := 1, nameIndex := 5, descriptorIndex := 6, attributes := #[] }] 33 2 #[] #[{ accessFlags := 25, nameIndex := 123, descriptorIndex := 124, attributes := #[] }, { accessFlags := 25, nameIndex := 130, descriptorIndex := 124, attributes := #[] }, { accessFlags := 25, nameIndex := 136, descriptorIndex := 124, attributes := #[] }])
  fields := #[{ name := "SIOOBE_FORMATTER", type := (.object "java/util/function/BiFunction"), accessFlags := 25, slot := 0, constantValue := 0 }, { name := "AIOOBE_FORMATTER", type := (.object "java/util/function/BiFunction"), accessFlags := 25, slot := 1, constantValue := 0 }, { name := "IOOBE_FORMATTER", type := (.object "java/util/function/BiFunction"), accessFlags := 25, slot := 2, constantValue := 0 }]
  methods := #[k13m0]
  instanceTypes := #[]
  staticTypes := #[(.object "java/util/function/BiFunction"), (.object "java/util/function/BiFunction"), (.object "java/util/function/BiFunction")]
  resolved := Array.replicate 194 none
  statics := some 2 }

def pool14 : Array CpInfo := pool [(9, u "<init>"), (6, .class_ 18), (1, u "java/lang/Object"), (0, u "()V"), (1, .class_ 23), (1, u "jdk/internal/util/ArraysSupport"), (0, u "LOG2_ARRAY_LONG_INDEX_SCALE"), (0, u "I"), (2, u "U"), (0, u "Ljdk/internal/misc/Unsafe;"), (8, u "BIG_ENDIAN"), (0, u "Z"), (8, u "LOG2_BYTE_BIT_SIZE"), (4, u "LOG2_ARRAY_INT_INDEX_SCALE"), (54, u "JLA"), (0, u "Ljdk/internal/access/JavaLangAccess;"), (11, u "LOG2_ARRAY_BOOLEAN_INDEX_SCALE"), (9, u "LOG2_ARRAY_BYTE_INDEX_SCALE"), (5, u "LOG2_ARRAY_CHAR_INDEX_SCALE"), (5, u "LOG2_ARRAY_SHORT_INDEX_SCALE"), (18, u "LOG2_ARRAY_FLOAT_INDEX_SCALE"), (24, u "LOG2_ARRAY_DOUBLE_INDEX_SCALE"), (89, u "T_BOOLEAN"), (2, u "T_CHAR"), (1, u "T_FLOAT"), (1, u "T_DOUBLE"), (1, u "T_BYTE"), (1, u "T_SHORT"), (1, u "T_INT"), (1, u "T_LONG"), (1, u "SOFT_MAX_ARRAY_LENGTH")] 83

def k14m0 : Method := { name := "<init>", desc := "()V", sig := { parameters := [], returnType := none }, accessFlags := 2, code := none }
/-- jdk/internal/util/ArraysSupport -/
def k14 : Class := { plain "jdk/internal/util/ArraysSupport" (some 0) with
  accessFlags := 33
  interfaces := #[]
  cf := some (fileOf pool14 21 #[] #[{ accessFlags := 2, nameIndex := 9, descriptorIndex := 19, attributes := #[] }] 33 16 #[] #[{ accessFlags := 24, nameIndex := 28, descriptorIndex := 29, attributes := #[] }, { accessFlags := 26, nameIndex := 38, descriptorIndex := 39, attributes := #[] }, { accessFlags := 25, nameIndex := 121, descriptorIndex := 25, attributes := #[] }, { accessFlags := 25, nameIndex := 131, descriptorIndex := 25, attributes := #[] }, { accessFlags := 25, nameIndex := 137, descriptorIndex := 25, attributes := #[] }, { accessFlags := 25, nameIndex := 143, descriptorIndex := 25, attributes := #[] }, { accessFlags := 25, nameIndex := 53, descriptorIndex := 25, attributes := #[] }, { accessFlags := 25, nameIndex := 24, descriptorIndex := 25, attributes := #[] }, { accessFlags := 25, nameIndex := 162, descriptorIndex := 25, attributes := #[] }, { accessFlags := 25, nameIndex := 187, descriptorIndex := 25, attributes := #[] }, { accessFlags := 26, nameIndex := 48, descriptorIndex := 25, attributes := #[] }, { accessFlags := 25, nameIndex := 277, descriptorIndex := 25, attributes := #[] }, { accessFlags := 25, nameIndex := 280, descriptorIndex := 25, attributes := #[] }, { accessFlags := 25, nameIndex := 282, descriptorIndex := 25, attributes := #[] }, { accessFlags := 25, nameIndex := 284, descriptorIndex := 25, attributes := #[] }, { accessFlags := 25, nameIndex := 286, descriptorIndex := 25, attributes := #[] }, { accessFlags := 25, nameIndex := 288, descriptorIndex := 25, attributes := #[] }, { accessFlags := 25, nameIndex := 290, descriptorIndex := 25, attributes := #[] }, { accessFlags := 25, nameIndex := 292, descriptorIndex := 25, attributes := #[] }, { accessFlags := 26, nameIndex := 108, descriptorIndex := 109, attributes := #[] }, { accessFlags := 25, nameIndex := 294, descriptorIndex := 25, attributes := #[] }])
  fields := #[{ name := "U", type := (.object "jdk/internal/misc/Unsafe"), accessFlags := 24, slot := 0, constantValue := 0 }, { name := "BIG_ENDIAN", type := .boolean, accessFlags := 26, slot := 1, constantValue := 0 }, { name := "LOG2_ARRAY_BOOLEAN_INDEX_SCALE", type := .int, accessFlags := 25, slot := 2, constantValue := 0 }, { name := "LOG2_ARRAY_BYTE_INDEX_SCALE", type := .int, accessFlags := 25, slot := 3, constantValue := 0 }, { name := "LOG2_ARRAY_CHAR_INDEX_SCALE", type := .int, accessFlags := 25, slot := 4, constantValue := 0 }, { name := "LOG2_ARRAY_SHORT_INDEX_SCALE", type := .int, accessFlags := 25, slot := 5, constantValue := 0 }, { name := "LOG2_ARRAY_INT_INDEX_SCALE", type := .int, accessFlags := 25, slot := 6, constantValue := 0 }, { name := "LOG2_ARRAY_LONG_INDEX_SCALE", type := .int, accessFlags := 25, slot := 7, constantValue := 0 }, { name := "LOG2_ARRAY_FLOAT_INDEX_SCALE", type := .int, accessFlags := 25, slot := 8, constantValue := 0 }, { name := "LOG2_ARRAY_DOUBLE_INDEX_SCALE", type := .int, accessFlags := 25, slot := 9, constantValue := 0 }, { name := "LOG2_BYTE_BIT_SIZE", type := .int, accessFlags := 26, slot := 10, constantValue := 0 }, { name := "T_BOOLEAN", type := .int, accessFlags := 25, slot := 11, constantValue := 0 }, { name := "T_CHAR", type := .int, accessFlags := 25, slot := 12, constantValue := 0 }, { name := "T_FLOAT", type := .int, accessFlags := 25, slot := 13, constantValue := 0 }, { name := "T_DOUBLE", type := .int, accessFlags := 25, slot := 14, constantValue := 0 }, { name := "T_BYTE", type := .int, accessFlags := 25, slot := 15, constantValue := 0 }, { name := "T_SHORT", type := .int, accessFlags := 25, slot := 16, constantValue := 0 }, { name := "T_INT", type := .int, accessFlags := 25, slot := 17, constantValue := 0 }, { name := "T_LONG", type := .int, accessFlags := 25, slot := 18, constantValue := 0 }, { name := "JLA", type := (.object "jdk/internal/access/JavaLangAccess"), accessFlags := 26, slot := 19, constantValue := 0 }, { name := "SOFT_MAX_ARRAY_LENGTH", type := .int, accessFlags := 25, slot := 20, constantValue := 0 }]
  methods := #[k14m0]
  instanceTypes := #[]
  staticTypes := #[(.object "jdk/internal/misc/Unsafe"), .boolean, .int, .int, .int, .int, .int, .int, .int, .int, .int, .int, .int, .int, .int, .int, .int, .int, .int, (.object "jdk/internal/access/JavaLangAccess"), .int]
  resolved := Array.replicate 378 none
  statics := none }

def pool15 : Array CpInfo := pool [(1, u "java/lang/Cloneable"), (0, .class_ 1), (0, u "java/lang/Object"), (0, .class_ 3)] 3

/-- java/lang/Cloneable -/
def k15 : Class := { plain "java/lang/Cloneable" (some 0) with
  accessFlags := 1537
  interfaces := #[]
  cf := some (fileOf pool15 2 #[] #[] 1537 4 #[] #[])
  fields := #[]
  methods := #[]
  instanceTypes := #[]
  staticTypes := #[]
  resolved := Array.replicate 8 none
  statics := none }

/-- the primitive byte -/
def k16 : Class := { plain "byte" none with kind := .primitive 'B', accessFlags := 0x411 }
/-- [B -/
def k17 : Class := { plain "[B" (some 0) with kind := .array 16 .byte, interfaces := #[15, 2], accessFlags := 1041 }

/-- the primitive char -/
def k18 : Class := { plain "char" none with kind := .primitive 'C', accessFlags := 0x411 }
/-- [C -/
def k19 : Class := { plain "[C" (some 0) with kind := .array 18 .char, interfaces := #[15, 2], accessFlags := 1041 }

/-- the primitive int -/
def k20 : Class := { plain "int" none with kind := .primitive 'I', accessFlags := 0x411 }
/-- [I -/
def k21 : Class := { plain "[I" (some 0) with kind := .array 20 .int, interfaces := #[15, 2], accessFlags := 1041 }

def heap : Heap := #[{ cls := 7, slots := #[.long 0, .int 1, .null, .int 0, .null, .int 0, .int 0], vm := .statics 7 },
  { cls := 10, slots := #[.null, .null, .null, .null, .null, .null, .null, .null, .null, .null, .null, .null, .null, .null, .null, .null, .null, .null, .null, .null, .null, .null, .null, .ref 3, .null], vm := .statics 10 },
  { cls := 13, slots := #[.null, .null, .null], vm := .statics 13 },
  { cls := 10, slots := #[.null, .int 0, .int 0], vm := .none }]
def classes : Array Class := #[k0, k1, k2, k3, k4, k5, k6, k7, k8, k9, k10, k11, k12, k13, k14, k15, k16, k17, k18, k19, k20, k21]
def interned : List (Array UInt16 × Addr) := []
def slotsUsed : Nat := 38
def theMethod : MethodId := ⟨1, 3⟩
def args0 : Array Value := #[.int 1, .int 2, .int 3, .int 4, .int 5]
def aboutOver (below : List Frame) : State where
  vm := { classes := classes, interned := interned.toArray }
  heap := heap
  slotsUsed := slotsUsed
  threads := #[{ frames := .invoking theMethod args0 :: below }]
def below0 : List Frame := [.native { method := ⟨0, 0⟩, args := #[] }]
def about1 : State := aboutOver below0
def p0 : Program := .bare "" "" ""
def e0 : Env := launch0.env 0 0 0
theorem w_frames : about1.frames = Frame.invoking theMethod args0 :: below0 := rfl
set_option maxRecDepth 65536 in
theorem w_args : argsFit about1.vm theMethod args0 = true := by decide +kernel
set_option maxRecDepth 65536 in
theorem w_heap : heapFits about1 = true := by decide +kernel
set_option maxRecDepth 65536 in
theorem w_runnable : about1.curStatus? = some .runnable := by decide +kernel
set_option maxRecDepth 65536 in
theorem w_alone : about1.alone = true := by decide +kernel
set_option maxRecDepth 65536 in
theorem w_named : about1.methodNamed? x = some theMethod := by decide +kernel
set_option maxRecDepth 65536 in
theorem w_hears : about1.hears theMethod below0 = true := by decide +kernel
set_option maxRecDepth 65536 in
theorem w_ripe : about1.ripe theMethod args0 below0 = true := by decide +kernel
theorem w_running : about1.status = .running := rfl
set_option maxRecDepth 65536 in
theorem w_room : about1.hasRoom e0.platform room_1 = true :=
  launch0.hasRoom_least _ room_1 (by decide +kernel) (by decide +kernel) (by decide +kernel) (by decide +kernel) (by decide +kernel) (by decide +kernel)
theorem allAtoms_all (ts : List Jvm.Cond) (a : Array Jvm.Value) (st : Jvm.State) : (allAtoms ts).before a st = ts.all (fun c => c.before a st) := by
  induction ts with
  | nil => rfl
  | cons c t ih =>
    show (Jvm.Cond.and c (allAtoms t)).before a st = _
    rw [Jvm.Cond.before_and, ih, List.all_cons]
def words1 : List Jvm.Cond := Jvm.Cond.code x code maxLocals ret :: tables_1
/-- a 'code' word, met by the world's own term for the bytes: nothing is compared byte by byte -/
theorem code_word {y : MethodName} {bytes : ByteArray} {mx : Nat} {rt : Option FieldType} {a : Array Value} {s : State} {m : MethodId} {meth : Method} {c : Code} (h1 : s.methodNamed? y = some m) (h2 : s.vm.method? m = some meth) (h3 : meth.code = some c) (h4 : c.code = bytes)
    (h5 : (c.maxLocals == mx && c.exceptionTable.isEmpty && decide (c.maxStack ≤ mostOperands) && decide (meth.sig.returnType = rt) && !meth.locks && decide (parseMethodDescriptor y.desc = some meth.sig)) = true) : (Jvm.Cond.code y bytes mx rt).before a s = true := by
  simp only [Bool.and_eq_true, beq_iff_eq, Bool.not_eq_true', decide_eq_true_eq] at h5
  obtain ⟨⟨⟨⟨⟨g1, g2⟩, g3⟩, g4⟩, g5⟩, g6⟩ := h5
  simp [Cond.before, Cond.holds, Cond.value, h1, h2, h3, h4, g1, g2, g3, g4, g5, g6]
def isCode : Jvm.Cond → Bool
  | .code _ _ _ _ => true
  | _ => false
theorem all_split {L : List Jvm.Cond} {P : Jvm.Cond → Bool} (h1 : L.all (fun c => isCode c || P c) = true) (h2 : ∀ c ∈ L.filter isCode, P c = true) : L.all P = true := by
  refine List.all_eq_true.mpr fun c hc => ?_
  have h := List.all_eq_true.mp h1 c hc
  rcases Bool.eq_false_or_eq_true (isCode c) with hi | hi
  · exact h2 c (List.mem_filter.mpr ⟨hc, hi⟩)
  · simpa [hi] using h
set_option maxRecDepth 65536 in
theorem w_c0 : (Jvm.Cond.code x code maxLocals ret).before args0 about1 = true := code_word (m := ⟨1, 3⟩) (meth := k1m3) (c := k1c3) (by decide +kernel) rfl rfl rfl (by decide +kernel)
set_option maxRecDepth 65536 in
theorem w_c1 : (Jvm.Cond.code ({ cls := "com/example/strict_crosswalk/strictcrosswalk/description/AspectOtherPinLaw", name := "str", desc := "(IIII)Ljava/lang/String;" } : Jvm.MethodName) method_2_code (7 : Nat) (Option.some (Jvm.ClassFile.FieldType.object "java/lang/String"))).before args0 about1 = true := code_word (m := ⟨1, 1⟩) (meth := k1m1) (c := k1c1) (by decide +kernel) rfl rfl rfl (by decide +kernel)
set_option maxRecDepth 65536 in
theorem w_c2 : (Jvm.Cond.code ({ cls := "java/lang/String", name := "<init>", desc := "([C)V" } : Jvm.MethodName) jdk_42_method_3_code (2 : Nat) (Option.none : Option Jvm.ClassFile.FieldType)).before args0 about1 = true := code_word (m := ⟨7, 1⟩) (meth := k7m1) (c := k7c1) (by decide +kernel) rfl rfl rfl (by decide +kernel)
set_option maxRecDepth 65536 in
theorem w_c3 : (Jvm.Cond.code ({ cls := "java/lang/String", name := "<init>", desc := "([CIILjava/lang/Void;)V" } : Jvm.MethodName) jdk_42_method_149_code (6 : Nat) (Option.none : Option Jvm.ClassFile.FieldType)).before args0 about1 = true := code_word (m := ⟨7, 3⟩) (meth := k7m3) (c := k7c3) (by decide +kernel) rfl rfl rfl (by decide +kernel)
set_option maxRecDepth 65536 in
theorem w_c4 : (Jvm.Cond.code ({ cls := "java/lang/Object", name := "<init>", desc := "()V" } : Jvm.MethodName) object_method_1_code (1 : Nat) (Option.none : Option Jvm.ClassFile.FieldType)).before args0 about1 = true := code_word (m := ⟨0, 0⟩) (meth := k0m0) (c := k0c0) (by decide +kernel) rfl rfl rfl (by decide +kernel)
set_option maxRecDepth 65536 in
theorem w_c5 : (Jvm.Cond.code ({ cls := "com/example/strict_crosswalk/strictcrosswalk/description/Aspect", name := "other", desc := "(Ljava/lang/String;)Lcom/example/strict_crosswalk/strictcrosswalk/description/Aspect;" } : Jvm.MethodName) prog_11_method_4_code (1 : Nat) (Option.some (Jvm.ClassFile.FieldType.object "com/example/strict_crosswalk/strictcrosswalk/description/Aspect"))).before args0 about1 = true := code_word (m := ⟨8, 1⟩) (meth := k8m1) (c := k8c1) (by decide +kernel) rfl rfl rfl (by decide +kernel)
set_option maxRecDepth 65536 in
theorem w_c6 : (Jvm.Cond.code ({ cls := "com/example/strict_crosswalk/strictcrosswalk/description/Aspect", name := "<init>", desc := "(Lcom/example/strict_crosswalk/strictcrosswalk/description/Aspect$Part;Ljava/lang/String;)V" } : Jvm.MethodName) prog_11_method_1_code (3 : Nat) (Option.none : Option Jvm.ClassFile.FieldType)).before args0 about1 = true := code_word (m := ⟨8, 0⟩) (meth := k8m0) (c := k8c0) (by decide +kernel) rfl rfl rfl (by decide +kernel)
set_option maxRecDepth 65536 in
theorem w_c7 : (Jvm.Cond.code ({ cls := "com/example/strict_crosswalk/strictcrosswalk/description/Aspect", name := "getPart", desc := "()Lcom/example/strict_crosswalk/strictcrosswalk/description/Aspect$Part;" } : Jvm.MethodName) prog_11_method_5_code (1 : Nat) (Option.some (Jvm.ClassFile.FieldType.object "com/example/strict_crosswalk/strictcrosswalk/description/Aspect$Part"))).before args0 about1 = true := code_word (m := ⟨8, 2⟩) (meth := k8m2) (c := k8c2) (by decide +kernel) rfl rfl rfl (by decide +kernel)
set_option maxRecDepth 65536 in
theorem w_c8 : (Jvm.Cond.code ({ cls := "com/example/strict_crosswalk/strictcrosswalk/description/Aspect", name := "getName", desc := "()Ljava/lang/String;" } : Jvm.MethodName) prog_11_method_6_code (1 : Nat) (Option.some (Jvm.ClassFile.FieldType.object "java/lang/String"))).before args0 about1 = true := code_word (m := ⟨8, 3⟩) (meth := k8m3) (c := k8c3) (by decide +kernel) rfl rfl rfl (by decide +kernel)
set_option maxRecDepth 65536 in
theorem w_c9 : (Jvm.Cond.code ({ cls := "com/example/strict_crosswalk/strictcrosswalk/description/AspectOtherPinLaw", name := "sameName", desc := "(Ljava/lang/String;Ljava/lang/String;)Z" } : Jvm.MethodName) method_3_code (2 : Nat) (Option.some Jvm.ClassFile.FieldType.boolean)).before args0 about1 = true := code_word (m := ⟨1, 2⟩) (meth := k1m2) (c := k1c2) (by decide +kernel) rfl rfl rfl (by decide +kernel)
set_option maxRecDepth 65536 in
theorem w_c10 : (Jvm.Cond.code ({ cls := "java/lang/String", name := "equals", desc := "(Ljava/lang/Object;)Z" } : Jvm.MethodName) jdk_42_method_66_code (3 : Nat) (Option.some Jvm.ClassFile.FieldType.boolean)).before args0 about1 = true := code_word (m := ⟨7, 2⟩) (meth := k7m2) (c := k7c2) (by decide +kernel) rfl rfl rfl (by decide +kernel)
set_option maxRecDepth 65536 in
theorem w_c11 : (Jvm.Cond.code ({ cls := "java/lang/StringUTF16", name := "compress", desc := "([CII)[B" } : Jvm.MethodName) jdk_52_method_16_code (6 : Nat) (Option.some (Jvm.ClassFile.FieldType.array Jvm.ClassFile.FieldType.byte))).before args0 about1 = true := code_word (m := ⟨11, 2⟩) (meth := k11m2) (c := k11c2) (by decide +kernel) rfl rfl rfl (by decide +kernel)
set_option maxRecDepth 65536 in
theorem w_c12 : (Jvm.Cond.code ({ cls := "java/lang/StringUTF16", name := "compress", desc := "([CI[BII)I" } : Jvm.MethodName) jdk_52_method_21_code (7 : Nat) (Option.some Jvm.ClassFile.FieldType.int)).before args0 about1 = true := code_word (m := ⟨11, 3⟩) (meth := k11m3) (c := k11c3) (by decide +kernel) rfl rfl rfl (by decide +kernel)
set_option maxRecDepth 65536 in
theorem w_c13 : (Jvm.Cond.code ({ cls := "java/lang/StringUTF16", name := "coderFromArrayLen", desc := "([BI)B" } : Jvm.MethodName) jdk_52_method_15_code (2 : Nat) (Option.some Jvm.ClassFile.FieldType.byte)).before args0 about1 = true := code_word (m := ⟨11, 1⟩) (meth := k11m1) (c := k11c1) (by decide +kernel) rfl rfl rfl (by decide +kernel)
def codes1 : List Jvm.Cond := [Jvm.Cond.code x code maxLocals ret, Jvm.Cond.code ({ cls := "com/example/strict_crosswalk/strictcrosswalk/description/AspectOtherPinLaw", name := "str", desc := "(IIII)Ljava/lang/String;" } : Jvm.MethodName) method_2_code (7 : Nat) (Option.some (Jvm.ClassFile.FieldType.object "java/lang/String")), Jvm.Cond.code ({ cls := "java/lang/String", name := "<init>", desc := "([C)V" } : Jvm.MethodName) jdk_42_method_3_code (2 : Nat) (Option.none : Option Jvm.ClassFile.FieldType), Jvm.Cond.code ({ cls := "java/lang/String", name := "<init>", desc := "([CIILjava/lang/Void;)V" } : Jvm.MethodName) jdk_42_method_149_code (6 : Nat) (Option.none : Option Jvm.ClassFile.FieldType), Jvm.Cond.code ({ cls := "java/lang/Object", name := "<init>", desc := "()V" } : Jvm.MethodName) object_method_1_code (1 : Nat) (Option.none : Option Jvm.ClassFile.FieldType), Jvm.Cond.code ({ cls := "com/example/strict_crosswalk/strictcrosswalk/description/Aspect", name := "other", desc := "(Ljava/lang/String;)Lcom/example/strict_crosswalk/strictcrosswalk/description/Aspect;" } : Jvm.MethodName) prog_11_method_4_code (1 : Nat) (Option.some (Jvm.ClassFile.FieldType.object "com/example/strict_crosswalk/strictcrosswalk/description/Aspect")), Jvm.Cond.code ({ cls := "com/example/strict_crosswalk/strictcrosswalk/description/Aspect", name := "<init>", desc := "(Lcom/example/strict_crosswalk/strictcrosswalk/description/Aspect$Part;Ljava/lang/String;)V" } : Jvm.MethodName) prog_11_method_1_code (3 : Nat) (Option.none : Option Jvm.ClassFile.FieldType), Jvm.Cond.code ({ cls := "com/example/strict_crosswalk/strictcrosswalk/description/Aspect", name := "getPart", desc := "()Lcom/example/strict_crosswalk/strictcrosswalk/description/Aspect$Part;" } : Jvm.MethodName) prog_11_method_5_code (1 : Nat) (Option.some (Jvm.ClassFile.FieldType.object "com/example/strict_crosswalk/strictcrosswalk/description/Aspect$Part")), Jvm.Cond.code ({ cls := "com/example/strict_crosswalk/strictcrosswalk/description/Aspect", name := "getName", desc := "()Ljava/lang/String;" } : Jvm.MethodName) prog_11_method_6_code (1 : Nat) (Option.some (Jvm.ClassFile.FieldType.object "java/lang/String")), Jvm.Cond.code ({ cls := "com/example/strict_crosswalk/strictcrosswalk/description/AspectOtherPinLaw", name := "sameName", desc := "(Ljava/lang/String;Ljava/lang/String;)Z" } : Jvm.MethodName) method_3_code (2 : Nat) (Option.some Jvm.ClassFile.FieldType.boolean), Jvm.Cond.code ({ cls := "java/lang/String", name := "equals", desc := "(Ljava/lang/Object;)Z" } : Jvm.MethodName) jdk_42_method_66_code (3 : Nat) (Option.some Jvm.ClassFile.FieldType.boolean), Jvm.Cond.code ({ cls := "java/lang/StringUTF16", name := "compress", desc := "([CII)[B" } : Jvm.MethodName) jdk_52_method_16_code (6 : Nat) (Option.some (Jvm.ClassFile.FieldType.array Jvm.ClassFile.FieldType.byte)), Jvm.Cond.code ({ cls := "java/lang/StringUTF16", name := "compress", desc := "([CI[BII)I" } : Jvm.MethodName) jdk_52_method_21_code (7 : Nat) (Option.some Jvm.ClassFile.FieldType.int), Jvm.Cond.code ({ cls := "java/lang/StringUTF16", name := "coderFromArrayLen", desc := "([BI)B" } : Jvm.MethodName) jdk_52_method_15_code (2 : Nat) (Option.some Jvm.ClassFile.FieldType.byte)]
set_option maxRecDepth 65536 in
theorem codes_eq : words1.filter isCode = codes1 := rfl
theorem w_codes : ∀ c ∈ words1.filter isCode, c.before args0 about1 = true := by
  rw [codes_eq]
  intro c hc
  simp only [codes1, List.mem_cons, List.not_mem_nil, or_false] at hc
  rcases hc with rfl | rfl | rfl | rfl | rfl | rfl | rfl | rfl | rfl | rfl | rfl | rfl | rfl | rfl
  · exact w_c0
  · exact w_c1
  · exact w_c2
  · exact w_c3
  · exact w_c4
  · exact w_c5
  · exact w_c6
  · exact w_c7
  · exact w_c8
  · exact w_c9
  · exact w_c10
  · exact w_c11
  · exact w_c12
  · exact w_c13
set_option maxRecDepth 65536 in
theorem w_t1 : (words1.take 24).all (fun c => isCode c || c.before args0 about1) = true := by decide +kernel
set_option maxRecDepth 65536 in
theorem w_t2 : ((words1.drop 24).take 24).all (fun c => isCode c || c.before args0 about1) = true := by decide +kernel
set_option maxRecDepth 65536 in
theorem w_t3 : (((words1.drop 24).drop 24).take 24).all (fun c => isCode c || c.before args0 about1) = true := by decide +kernel
set_option maxRecDepth 65536 in
theorem w_t4 : (((words1.drop 24).drop 24).drop 24).all (fun c => isCode c || c.before args0 about1) = true := by decide +kernel
theorem w_tables : (allAtoms (Jvm.Cond.code x code maxLocals ret :: tables_1)).before args0 about1 = true := by
  rw [allAtoms_all]
  show words1.all (fun c => c.before args0 about1) = true
  refine all_split ?_ w_codes
  rw [← List.take_append_drop 24 words1, List.all_append, w_t1, ← List.take_append_drop 24 (words1.drop 24), List.all_append, w_t2, ← List.take_append_drop 24 ((words1.drop 24).drop 24), List.all_append, w_t3, w_t4]
  rfl
set_option maxRecDepth 65536 in
theorem w_rest : rest_1_c.before args0 about1 = true := by decide +kernel
set_option maxRecDepth 65536 in
theorem w_case : (Jvm.Cond.and given_1 narrow_1).before args0 about1 = true := by decide +kernel
set_option maxRecDepth 65536 in
theorem w_consts : constsHeld consts_1 about1 := Jvm.Lit.constsHeldB_iff.mp (by decide +kernel)
theorem w_applies : (headSpec (Jvm.Cond.code x code maxLocals ret :: tables_1) room_1).applies x e0.platform about1 = true :=
  (Spec.applies_iff w_frames).mpr ⟨w_running, w_runnable, w_alone, w_named, w_hears, w_ripe, w_room, w_tables⟩
theorem atStart : AtStart classFile x code maxLocals ret World_1 tables_1 room_1 Calls_1 rest_1 Pre_1 launch0 p0 e0 about1 theMethod args0 below0 :=
  ⟨lists_1, trivial, launch0.admits_env _ _ _, launch0.least_env, fairChoices_fair.cas, fairChoices_fair.clock, w_frames, w_args, w_heap, w_applies, ⟨w_consts, trivial⟩, w_rest, w_case⟩
end start1
theorem witness_1 : WitnessClaimed_1 := ⟨start1.p0, start1.e0, start1.about1, start1.theMethod, start1.args0, start1.below0, start1.atStart⟩
end Jvm.Pilot.@@N@@
