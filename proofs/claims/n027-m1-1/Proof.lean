import JvmDerived
import JvmDerived.Pilot.@@N@@Statement
import JvmDerived.Pilot.@@N@@Code
set_option linter.unusedVariables false
set_option linter.unusedSimpArgs false
namespace Jvm.OwnGo
open Jvm Jvm.ClassFile Sem Op Lib Jvm.Free Jvm.Stand Jvm.LawKit Jvm.RoadKit Bundle
/-- from A the invocation ends and returns what Q takes; what was written lies at n0 or above -/
def Go (p : Program) (e : Env) (below : List Frame) (s : State) (n0 k n : Nat) (Q : Option Value → Heap → Prop) (A : State) : Prop :=
  ∃ t o, Steps p.tables e below A t ∧ t.status = .running ∧ Ended t below o ∧ ∃ v L, o = .returned v ∧ (Q v t.heap ∧ Fr n0 L) ∧ FrameEnd s o t L k n
/-- what stays as it is through a walk -/
def Ctx (p : Program) (s : State) (m : MethodId) (meth : Method) (c : Code) (Z : State) (a0 : Array Value) (ws : List Jvm.Cond) (own nm : String) (bytes : ByteArray) (ml : Nat) (ret : Option FieldType) : Prop :=
  p.tables.exec = Jvm.exec ∧ Z.Warmed39 s.vm ∧ (∀ d ∈ ws, d.before a0 Z = true) ∧ s.vm.findClass own = some m.cls ∧ meth.name = nm ∧ c.code = bytes ∧ c.maxLocals = ml ∧ meth.sig.returnType = ret ∧ meth.locks = false
/-- where a walk stands -/
def St (p : Program) (l : Launch) (e : Env) (R : Room) (s : State) (m : MethodId) (args : Array Value) (below : List Frame) (meth : Method) (c : Code) (n0 : Nat) (T : State) (h : Heap) (cells slots : Nat) : Prop :=
  T.heap = h ∧ n0 ≤ s.heap.size ∧ ∃ locs, Fr n0 locs ∧ Stand p l e R s m args below meth c T locs cells slots
/-- an array: its elements, one by one -/
def AR (Z : State) (h : Heap) (a : Addr) (ty : FieldType) (vs : List Value) : Prop := ∃ c : Cell, Arr Z h a c ty ∧ c.slots = vs.toArray ∧ vs.length < 2 ^ 31
/-- a method's contract at one heap -/
def Con (l : Launch) (Z : State) (y : MethodName) (bytes : ByteArray) (ml : Nat) (ret : Option FieldType) (wx : List Jvm.Cond) (rm : Room) (n0 : Nat) (as : Array Value) (h0 : Heap) (Q : Option Value → Heap → Prop) : Prop :=
  MetFree l y (head1 (Jvm.Cond.code y bytes ml ret :: wx) rm) (fun a U => a = as ∧ Z.Warmed39 U.vm ∧ U.heap = h0) (fun _ _ _ _ _ => True) (fun _ U o U' => ∃ v L, o = .returned v ∧ (Q v U'.heap ∧ Fr n0 L) ∧ FrameEnd U o U' L rm.cells rm.slots)
section One
variable {p : Program} {l : Launch} {e : Env} {R : Room} {s : State} {m : MethodId} {args : Array Value} {below : List Frame} {meth : Method} {c : Code} {T : State} {h h' : Heap} {n0 cells slots k n : Nat} {Q : Option Value → Heap → Prop} {A B Z : State} {a0 : Array Value} {ws : List Jvm.Cond} {own nm : String} {bytes : ByteArray} {ml pc : Nat} {ret : Option FieldType} {Ls : Array Slot} {rest stk : List Value}
def ius (x y : Int32) : Int32 := (x.toUInt32 >>> (y &&& 31).toUInt32).toInt32
def lus (x : Int64) (y : Int32) : Int64 := (x.toUInt64 >>> (y &&& 0x3f).toInt64.toUInt64).toInt64
theorem tm0 (x d : Int) : x.tmod d = 0 ↔ x % d = 0 := ⟨fun h => Int.emod_eq_zero_of_dvd (Int.dvd_of_tmod_eq_zero h), fun h => Int.tmod_eq_zero_of_dvd (Int.dvd_of_emod_eq_zero h)⟩
theorem irr (x : Int32) : ¬ x < x := by rw [Int32.lt_iff_toInt_lt]; omega
theorem wd {ws : List Jvm.Cond} (i : Nat) {d : Jvm.Cond} (q : ws[i]? = some d) : d ∈ ws := List.mem_of_getElem? q
theorem Ctx.hx (C : Ctx p s m meth c Z a0 ws own nm bytes ml ret) : p.tables.exec = Jvm.exec := C.1
theorem Ctx.hZ (C : Ctx p s m meth c Z a0 ws own nm bytes ml ret) : Z.Warmed39 s.vm := C.2.1
theorem Ctx.w (C : Ctx p s m meth c Z a0 ws own nm bytes ml ret) {d : Jvm.Cond} (q : d ∈ ws) : d.before a0 Z = true := C.2.2.1 d q
theorem Ctx.hown (C : Ctx p s m meth c Z a0 ws own nm bytes ml ret) : s.vm.findClass own = some m.cls := C.2.2.2.1
theorem Ctx.hnm (C : Ctx p s m meth c Z a0 ws own nm bytes ml ret) : meth.name = nm := C.2.2.2.2.1
theorem Ctx.hby (C : Ctx p s m meth c Z a0 ws own nm bytes ml ret) : c.code = bytes := C.2.2.2.2.2.1
theorem Ctx.hml (C : Ctx p s m meth c Z a0 ws own nm bytes ml ret) : c.maxLocals = ml := C.2.2.2.2.2.2.1
theorem Ctx.hret (C : Ctx p s m meth c Z a0 ws own nm bytes ml ret) : meth.sig.returnType = ret := C.2.2.2.2.2.2.2.1
theorem Ctx.hlk (C : Ctx p s m meth c Z a0 ws own nm bytes ml ret) : meth.locks = false := C.2.2.2.2.2.2.2.2
theorem St.here (X : St p l e R s m args below meth c n0 T h cells slots) : At T m c below := by obtain ⟨-, -, _, -, X⟩ := X; exact X.here
theorem St.size (X : St p l e R s m args below meth c n0 T h cells slots) : n0 ≤ h.size := by
  obtain ⟨rfl, hz, _, -, X⟩ := X
  exact Nat.le_trans hz X.same.2.1
theorem St.mono (X : St p l e R s m args below meth c n0 T h cells slots) {cells' slots' : Nat} (h1 : cells ≤ cells') (h2 : slots ≤ slots') : St p l e R s m args below meth c n0 T h cells' slots' := by
  obtain ⟨e0, hz, locs, N, X⟩ := X
  exact ⟨e0, hz, locs, N, { X with same := X.same.mono h1 h2 }⟩
theorem Go.st (q : ∀ t, Steps p.tables e below B t → Steps p.tables e below A t) (g : Go p e below s n0 k n Q B) : Go p e below s n0 k n Q A := by
  obtain ⟨t, o, h1, r⟩ := g
  exact ⟨t, o, q t h1, r⟩
theorem Go.tr (q : Steps p.tables e below A B) (g : Go p e below s n0 k n Q B) : Go p e below s n0 k n Q A := Go.st (fun _ r => q.trans r) g
theorem Con.mk {y : MethodName} {wx : List Jvm.Cond} {rm : Room} {as : Array Value} {h0 : Heap} (hp : plainFor y = true) (hw : ∀ d ∈ ws, d.before a0 Z = true) (hz : n0 ≤ h0.size)
    (H : ∀ (p : Program) (e : Env) (s : State) (m : MethodId) (below : List Frame) (meth : Method) (c : Code) (T : State), Ctx p s m meth c Z a0 ws y.cls y.name bytes ml ret → St p l e rm s m as below meth c n0 T h0 0 0 → Go p e below s n0 rm.cells rm.slots Q (T.setTop (entryFrame m as ml))) : Con l Z y bytes ml ret wx rm n0 as h0 Q := by
  refine MetFree.of_bodySF hp hisR ?_
  intro p e s m args below meth c s₁ Bd hml hP hK
  obtain ⟨rfl, hZ, hh⟩ := hP
  have hE : s₁.heap = h0 := by rw [← hh, Bd.state]; rfl
  exact H p e s m below meth c s₁ ⟨Bd.exec, hZ, hw, findClass_of_methodNamed Bd.named, (name_of_methodNamed Bd.named Bd.method).1, Bd.bytes, hml, Bd.returns, BodyLoose.notSynchronized Bd⟩ ⟨hE, by rw [hh]; exact hz, [], Fr.nil n0, Stand.of_body Bd⟩
theorem Go.retAny (C : Ctx p s m meth c Z a0 ws own nm bytes ml ret) (X : St p l e R s m args below meth c n0 T h cells slots) {w : Value} {t : FieldType} {i : Instr} (hret : ret = some t) (hn : narrow t w = w)
    (hi : (i = .ireturn ∧ (t = .int ∨ t = .boolean ∨ t = .byte ∨ t = .char ∨ t = .short) ∧ ∃ z, w = .int z) ∨ (i = .lreturn ∧ t = .long ∧ ∃ z, w = .long z) ∨ (i = .dreturn ∧ t = .double ∧ ∃ z, w = .double z) ∨ (i = .freturn ∧ t = .float ∧ ∃ z, w = .float z) ∨ (i = .areturn ∧ t.isReference = true ∧ w.isRef = true))
    (hd : decode bytes pc = .ok (i, 1)) (hQ : Q (some w) h) (hk : cells ≤ k) (hs : slots ≤ n) : Go p e below s n0 k n Q (T.setTop (mkF m pc Ls (w :: rest))) := by
  obtain ⟨rfl, hz, locs, N, X⟩ := X
  obtain ⟨fs, hr, hrun, hended, hW, hsame⟩ := X.leave (v := some w) (fun q => by rw [C.hret, hret] at q; cases q) C.hlk
  exact ⟨_, _, retOut X C.hx (C.hret.trans hret) hn hi (hb C.hby hd) hr, hrun, hended, _, _, rfl, ⟨hQ, N⟩, ⟨_, rfl⟩, hW, hsame.mono hk hs⟩
theorem Go.retI (C : Ctx p s m meth c Z a0 ws own nm bytes ml (some .int)) (X : St p l e R s m args below meth c n0 T h cells slots) {z : Int32} (hd : decode bytes pc = .ok (.ireturn, 1)) (hQ : Q (some (.int z)) h) (hk : cells ≤ k) (hs : slots ≤ n) : Go p e below s n0 k n Q (T.setTop (mkF m pc Ls (.int z :: rest))) :=
  Go.retAny C X rfl rfl (Or.inl ⟨rfl, Or.inl rfl, _, rfl⟩) hd hQ hk hs
theorem Go.retZ (C : Ctx p s m meth c Z a0 ws own nm bytes ml (some .boolean)) (X : St p l e R s m args below meth c n0 T h cells slots) {z : Int32} (hz : z = 0 ∨ z = 1) (hd : decode bytes pc = .ok (.ireturn, 1)) (hQ : Q (some (.int z)) h) (hk : cells ≤ k) (hs : slots ≤ n) : Go p e below s n0 k n Q (T.setTop (mkF m pc Ls (.int z :: rest))) :=
  Go.retAny C X rfl (by rcases hz with rfl | rfl <;> rfl) (Or.inl ⟨rfl, Or.inr (Or.inl rfl), _, rfl⟩) hd hQ hk hs
theorem Go.retJ (C : Ctx p s m meth c Z a0 ws own nm bytes ml (some .long)) (X : St p l e R s m args below meth c n0 T h cells slots) {z : Int64} (hd : decode bytes pc = .ok (.lreturn, 1)) (hQ : Q (some (.long z)) h) (hk : cells ≤ k) (hs : slots ≤ n) : Go p e below s n0 k n Q (T.setTop (mkF m pc Ls (.long z :: rest))) :=
  Go.retAny C X rfl rfl (Or.inr (Or.inl ⟨rfl, rfl, _, rfl⟩)) hd hQ hk hs
theorem Go.retA {t : FieldType} (C : Ctx p s m meth c Z a0 ws own nm bytes ml (some t)) (X : St p l e R s m args below meth c n0 T h cells slots) {v : Value} (ht : t.isReference = true) (hv : v.isRef = true) (hd : decode bytes pc = .ok (.areturn, 1)) (hQ : Q (some v) h) (hk : cells ≤ k) (hs : slots ≤ n) : Go p e below s n0 k n Q (T.setTop (mkF m pc Ls (v :: rest))) :=
  Go.retAny C X rfl (by cases t <;> cases v <;> first | rfl | (simp [FieldType.isReference] at ht; done) | (simp [Value.isRef] at hv; done)) (Or.inr (Or.inr (Or.inr (Or.inr ⟨rfl, ht, hv⟩)))) hd hQ hk hs
theorem Go.retV (C : Ctx p s m meth c Z a0 ws own nm bytes ml none) (X : St p l e R s m args below meth c n0 T h cells slots) (hd : decode bytes pc = .ok (.return_, 1)) (hQ : Q none h) (hk : cells ≤ k) (hs : slots ≤ n) : Go p e below s n0 k n Q (T.setTop (mkF m pc Ls [])) := by
  obtain ⟨rfl, hz, locs, N, X⟩ := X
  obtain ⟨fs, hr, hrun, hended, hW, hsame⟩ := X.leave (v := none) (fun _ => rfl) C.hlk
  exact ⟨_, _, X.returnOut C.hx C.hret (hb C.hby hd) hr, hrun, hended, _, _, rfl, ⟨hQ, N⟩, ⟨_, rfl⟩, hW, hsame.mono hk hs⟩
theorem Go.if_eq (C : Ctx p s m meth c Z a0 ws own nm bytes ml ret) (X : St p l e R s m args below meth c n0 T h cells slots) {x : Int32} {o : Int} {pc' : Nat} (hd : decode bytes pc = .ok (.ifCond .eq o, 3)) (ho : 0 ≤ (pc : Int) + o) (hp : ((pc : Int) + o).toNat = pc') (Y : x = 0 → Go p e below s n0 k n Q (T.setTop (mkF m pc' Ls rest))) (N : ¬ x = 0 → Go p e below s n0 k n Q (T.setTop (mkF m (pc + 3) Ls rest))) : Go p e below s n0 k n Q (T.setTop (mkF m pc Ls (.int x :: rest))) := by
  by_cases q : x = 0
  · exact Go.st (fun _ => XS.ifYes X.here C.hx rfl rfl (hb C.hby hd) rfl (by simpa [ifCond.holds] using q) ho hp) (Y q)
  · exact Go.st (fun _ => XS.ifNo X.here C.hx rfl (hb C.hby hd) rfl (by simpa [ifCond.holds] using q) ) (N q)
theorem Go.icmp_eq (C : Ctx p s m meth c Z a0 ws own nm bytes ml ret) (X : St p l e R s m args below meth c n0 T h cells slots) {x y : Int32} {o : Int} {pc' : Nat} (hd : decode bytes pc = .ok (.if_icmp .eq o, 3)) (ho : 0 ≤ (pc : Int) + o) (hp : ((pc : Int) + o).toNat = pc') (Y : x = y → Go p e below s n0 k n Q (T.setTop (mkF m pc' Ls rest))) (N : ¬ x = y → Go p e below s n0 k n Q (T.setTop (mkF m (pc + 3) Ls rest))) : Go p e below s n0 k n Q (T.setTop (mkF m pc Ls (.int y :: .int x :: rest))) := by
  by_cases q : x = y
  · exact Go.st (fun _ => XS.icmpYes X.here C.hx rfl rfl (hb C.hby hd) rfl (by simpa [if_icmp.holds] using q) ho hp) (Y q)
  · exact Go.st (fun _ => XS.icmpNo X.here C.hx rfl (hb C.hby hd) rfl (by simpa [if_icmp.holds] using q) ) (N q)
theorem Go.if_ne (C : Ctx p s m meth c Z a0 ws own nm bytes ml ret) (X : St p l e R s m args below meth c n0 T h cells slots) {x : Int32} {o : Int} {pc' : Nat} (hd : decode bytes pc = .ok (.ifCond .ne o, 3)) (ho : 0 ≤ (pc : Int) + o) (hp : ((pc : Int) + o).toNat = pc') (Y : ¬ x = 0 → Go p e below s n0 k n Q (T.setTop (mkF m pc' Ls rest))) (N : x = 0 → Go p e below s n0 k n Q (T.setTop (mkF m (pc + 3) Ls rest))) : Go p e below s n0 k n Q (T.setTop (mkF m pc Ls (.int x :: rest))) := by
  by_cases q : x = 0
  · exact Go.st (fun _ => XS.ifNo X.here C.hx rfl (hb C.hby hd) rfl (by simpa [ifCond.holds] using q) ) (N q)
  · exact Go.st (fun _ => XS.ifYes X.here C.hx rfl rfl (hb C.hby hd) rfl (by simpa [ifCond.holds] using q) ho hp) (Y q)
theorem Go.icmp_ne (C : Ctx p s m meth c Z a0 ws own nm bytes ml ret) (X : St p l e R s m args below meth c n0 T h cells slots) {x y : Int32} {o : Int} {pc' : Nat} (hd : decode bytes pc = .ok (.if_icmp .ne o, 3)) (ho : 0 ≤ (pc : Int) + o) (hp : ((pc : Int) + o).toNat = pc') (Y : ¬ x = y → Go p e below s n0 k n Q (T.setTop (mkF m pc' Ls rest))) (N : x = y → Go p e below s n0 k n Q (T.setTop (mkF m (pc + 3) Ls rest))) : Go p e below s n0 k n Q (T.setTop (mkF m pc Ls (.int y :: .int x :: rest))) := by
  by_cases q : x = y
  · exact Go.st (fun _ => XS.icmpNo X.here C.hx rfl (hb C.hby hd) rfl (by simpa [if_icmp.holds] using q) ) (N q)
  · exact Go.st (fun _ => XS.icmpYes X.here C.hx rfl rfl (hb C.hby hd) rfl (by simpa [if_icmp.holds] using q) ho hp) (Y q)
theorem Go.if_lt (C : Ctx p s m meth c Z a0 ws own nm bytes ml ret) (X : St p l e R s m args below meth c n0 T h cells slots) {x : Int32} {o : Int} {pc' : Nat} (hd : decode bytes pc = .ok (.ifCond .lt o, 3)) (ho : 0 ≤ (pc : Int) + o) (hp : ((pc : Int) + o).toNat = pc') (Y : x < 0 → Go p e below s n0 k n Q (T.setTop (mkF m pc' Ls rest))) (N : ¬ x < 0 → Go p e below s n0 k n Q (T.setTop (mkF m (pc + 3) Ls rest))) : Go p e below s n0 k n Q (T.setTop (mkF m pc Ls (.int x :: rest))) := by
  by_cases q : x < 0
  · exact Go.st (fun _ => XS.ifYes X.here C.hx rfl rfl (hb C.hby hd) rfl (by simpa [ifCond.holds] using q) ho hp) (Y q)
  · exact Go.st (fun _ => XS.ifNo X.here C.hx rfl (hb C.hby hd) rfl (by simpa [ifCond.holds] using q) ) (N q)
theorem Go.icmp_lt (C : Ctx p s m meth c Z a0 ws own nm bytes ml ret) (X : St p l e R s m args below meth c n0 T h cells slots) {x y : Int32} {o : Int} {pc' : Nat} (hd : decode bytes pc = .ok (.if_icmp .lt o, 3)) (ho : 0 ≤ (pc : Int) + o) (hp : ((pc : Int) + o).toNat = pc') (Y : x < y → Go p e below s n0 k n Q (T.setTop (mkF m pc' Ls rest))) (N : ¬ x < y → Go p e below s n0 k n Q (T.setTop (mkF m (pc + 3) Ls rest))) : Go p e below s n0 k n Q (T.setTop (mkF m pc Ls (.int y :: .int x :: rest))) := by
  by_cases q : x < y
  · exact Go.st (fun _ => XS.icmpYes X.here C.hx rfl rfl (hb C.hby hd) rfl (by simpa [if_icmp.holds] using q) ho hp) (Y q)
  · exact Go.st (fun _ => XS.icmpNo X.here C.hx rfl (hb C.hby hd) rfl (by simpa [if_icmp.holds] using q) ) (N q)
theorem Go.if_ge (C : Ctx p s m meth c Z a0 ws own nm bytes ml ret) (X : St p l e R s m args below meth c n0 T h cells slots) {x : Int32} {o : Int} {pc' : Nat} (hd : decode bytes pc = .ok (.ifCond .ge o, 3)) (ho : 0 ≤ (pc : Int) + o) (hp : ((pc : Int) + o).toNat = pc') (Y : ¬ x < 0 → Go p e below s n0 k n Q (T.setTop (mkF m pc' Ls rest))) (N : x < 0 → Go p e below s n0 k n Q (T.setTop (mkF m (pc + 3) Ls rest))) : Go p e below s n0 k n Q (T.setTop (mkF m pc Ls (.int x :: rest))) := by
  by_cases q : x < 0
  · exact Go.st (fun _ => XS.ifNo X.here C.hx rfl (hb C.hby hd) rfl (by simpa [ifCond.holds, Int32.not_lt] using q) ) (N q)
  · exact Go.st (fun _ => XS.ifYes X.here C.hx rfl rfl (hb C.hby hd) rfl (by simpa [ifCond.holds, Int32.not_lt] using q) ho hp) (Y q)
theorem Go.icmp_ge (C : Ctx p s m meth c Z a0 ws own nm bytes ml ret) (X : St p l e R s m args below meth c n0 T h cells slots) {x y : Int32} {o : Int} {pc' : Nat} (hd : decode bytes pc = .ok (.if_icmp .ge o, 3)) (ho : 0 ≤ (pc : Int) + o) (hp : ((pc : Int) + o).toNat = pc') (Y : ¬ x < y → Go p e below s n0 k n Q (T.setTop (mkF m pc' Ls rest))) (N : x < y → Go p e below s n0 k n Q (T.setTop (mkF m (pc + 3) Ls rest))) : Go p e below s n0 k n Q (T.setTop (mkF m pc Ls (.int y :: .int x :: rest))) := by
  by_cases q : x < y
  · exact Go.st (fun _ => XS.icmpNo X.here C.hx rfl (hb C.hby hd) rfl (by simpa [if_icmp.holds, Int32.not_lt] using q) ) (N q)
  · exact Go.st (fun _ => XS.icmpYes X.here C.hx rfl rfl (hb C.hby hd) rfl (by simpa [if_icmp.holds, Int32.not_lt] using q) ho hp) (Y q)
theorem Go.if_gt (C : Ctx p s m meth c Z a0 ws own nm bytes ml ret) (X : St p l e R s m args below meth c n0 T h cells slots) {x : Int32} {o : Int} {pc' : Nat} (hd : decode bytes pc = .ok (.ifCond .gt o, 3)) (ho : 0 ≤ (pc : Int) + o) (hp : ((pc : Int) + o).toNat = pc') (Y : 0 < x → Go p e below s n0 k n Q (T.setTop (mkF m pc' Ls rest))) (N : ¬ 0 < x → Go p e below s n0 k n Q (T.setTop (mkF m (pc + 3) Ls rest))) : Go p e below s n0 k n Q (T.setTop (mkF m pc Ls (.int x :: rest))) := by
  by_cases q : 0 < x
  · exact Go.st (fun _ => XS.ifYes X.here C.hx rfl rfl (hb C.hby hd) rfl (by simpa [ifCond.holds] using q) ho hp) (Y q)
  · exact Go.st (fun _ => XS.ifNo X.here C.hx rfl (hb C.hby hd) rfl (by simpa [ifCond.holds] using q) ) (N q)
theorem Go.icmp_gt (C : Ctx p s m meth c Z a0 ws own nm bytes ml ret) (X : St p l e R s m args below meth c n0 T h cells slots) {x y : Int32} {o : Int} {pc' : Nat} (hd : decode bytes pc = .ok (.if_icmp .gt o, 3)) (ho : 0 ≤ (pc : Int) + o) (hp : ((pc : Int) + o).toNat = pc') (Y : y < x → Go p e below s n0 k n Q (T.setTop (mkF m pc' Ls rest))) (N : ¬ y < x → Go p e below s n0 k n Q (T.setTop (mkF m (pc + 3) Ls rest))) : Go p e below s n0 k n Q (T.setTop (mkF m pc Ls (.int y :: .int x :: rest))) := by
  by_cases q : y < x
  · exact Go.st (fun _ => XS.icmpYes X.here C.hx rfl rfl (hb C.hby hd) rfl (by simpa [if_icmp.holds] using q) ho hp) (Y q)
  · exact Go.st (fun _ => XS.icmpNo X.here C.hx rfl (hb C.hby hd) rfl (by simpa [if_icmp.holds] using q) ) (N q)
theorem Go.if_le (C : Ctx p s m meth c Z a0 ws own nm bytes ml ret) (X : St p l e R s m args below meth c n0 T h cells slots) {x : Int32} {o : Int} {pc' : Nat} (hd : decode bytes pc = .ok (.ifCond .le o, 3)) (ho : 0 ≤ (pc : Int) + o) (hp : ((pc : Int) + o).toNat = pc') (Y : ¬ 0 < x → Go p e below s n0 k n Q (T.setTop (mkF m pc' Ls rest))) (N : 0 < x → Go p e below s n0 k n Q (T.setTop (mkF m (pc + 3) Ls rest))) : Go p e below s n0 k n Q (T.setTop (mkF m pc Ls (.int x :: rest))) := by
  by_cases q : 0 < x
  · exact Go.st (fun _ => XS.ifNo X.here C.hx rfl (hb C.hby hd) rfl (by simpa [ifCond.holds, Int32.not_lt] using q) ) (N q)
  · exact Go.st (fun _ => XS.ifYes X.here C.hx rfl rfl (hb C.hby hd) rfl (by simpa [ifCond.holds, Int32.not_lt] using q) ho hp) (Y q)
theorem Go.icmp_le (C : Ctx p s m meth c Z a0 ws own nm bytes ml ret) (X : St p l e R s m args below meth c n0 T h cells slots) {x y : Int32} {o : Int} {pc' : Nat} (hd : decode bytes pc = .ok (.if_icmp .le o, 3)) (ho : 0 ≤ (pc : Int) + o) (hp : ((pc : Int) + o).toNat = pc') (Y : ¬ y < x → Go p e below s n0 k n Q (T.setTop (mkF m pc' Ls rest))) (N : y < x → Go p e below s n0 k n Q (T.setTop (mkF m (pc + 3) Ls rest))) : Go p e below s n0 k n Q (T.setTop (mkF m pc Ls (.int y :: .int x :: rest))) := by
  by_cases q : y < x
  · exact Go.st (fun _ => XS.icmpNo X.here C.hx rfl (hb C.hby hd) rfl (by simpa [if_icmp.holds, Int32.not_lt] using q) ) (N q)
  · exact Go.st (fun _ => XS.icmpYes X.here C.hx rfl rfl (hb C.hby hd) rfl (by simpa [if_icmp.holds, Int32.not_lt] using q) ho hp) (Y q)
theorem Go.lif_eq (C : Ctx p s m meth c Z a0 ws own nm bytes ml ret) (X : St p l e R s m args below meth c n0 T h cells slots) {x y : Int64} {o : Int} {pc' : Nat} (hd : decode bytes pc = .ok (.ifCond .eq o, 3)) (ho : 0 ≤ (pc : Int) + o) (hp : ((pc : Int) + o).toNat = pc') (Y : x = y → Go p e below s n0 k n Q (T.setTop (mkF m pc' Ls rest))) (N : ¬ x = y → Go p e below s n0 k n Q (T.setTop (mkF m (pc + 3) Ls rest))) : Go p e below s n0 k n Q (T.setTop (mkF m pc Ls (.int (lcmpW x y) :: rest))) := by
  have q := lc_eq x y
  rw [← lcW] at q
  exact Go.if_eq C X hd ho hp (fun r => Y (q.mp r)) (fun r => N (fun u => r (q.mpr u)))
theorem Go.lif_ne (C : Ctx p s m meth c Z a0 ws own nm bytes ml ret) (X : St p l e R s m args below meth c n0 T h cells slots) {x y : Int64} {o : Int} {pc' : Nat} (hd : decode bytes pc = .ok (.ifCond .ne o, 3)) (ho : 0 ≤ (pc : Int) + o) (hp : ((pc : Int) + o).toNat = pc') (Y : ¬ x = y → Go p e below s n0 k n Q (T.setTop (mkF m pc' Ls rest))) (N : x = y → Go p e below s n0 k n Q (T.setTop (mkF m (pc + 3) Ls rest))) : Go p e below s n0 k n Q (T.setTop (mkF m pc Ls (.int (lcmpW x y) :: rest))) := by
  have q := lc_eq x y
  rw [← lcW] at q
  exact Go.if_ne C X hd ho hp (fun r => Y (fun u => r (q.mpr u))) (fun r => N (q.mp r))
theorem Go.lif_lt (C : Ctx p s m meth c Z a0 ws own nm bytes ml ret) (X : St p l e R s m args below meth c n0 T h cells slots) {x y : Int64} {o : Int} {pc' : Nat} (hd : decode bytes pc = .ok (.ifCond .lt o, 3)) (ho : 0 ≤ (pc : Int) + o) (hp : ((pc : Int) + o).toNat = pc') (Y : x < y → Go p e below s n0 k n Q (T.setTop (mkF m pc' Ls rest))) (N : ¬ x < y → Go p e below s n0 k n Q (T.setTop (mkF m (pc + 3) Ls rest))) : Go p e below s n0 k n Q (T.setTop (mkF m pc Ls (.int (lcmpW x y) :: rest))) := by
  have q := lc_lt x y
  rw [← lcW] at q
  exact Go.if_lt C X hd ho hp (fun r => Y (q.mp r)) (fun r => N (fun u => r (q.mpr u)))
theorem Go.lif_ge (C : Ctx p s m meth c Z a0 ws own nm bytes ml ret) (X : St p l e R s m args below meth c n0 T h cells slots) {x y : Int64} {o : Int} {pc' : Nat} (hd : decode bytes pc = .ok (.ifCond .ge o, 3)) (ho : 0 ≤ (pc : Int) + o) (hp : ((pc : Int) + o).toNat = pc') (Y : ¬ x < y → Go p e below s n0 k n Q (T.setTop (mkF m pc' Ls rest))) (N : x < y → Go p e below s n0 k n Q (T.setTop (mkF m (pc + 3) Ls rest))) : Go p e below s n0 k n Q (T.setTop (mkF m pc Ls (.int (lcmpW x y) :: rest))) := by
  have q := lc_lt x y
  rw [← lcW] at q
  exact Go.if_ge C X hd ho hp (fun r => Y (fun u => r (q.mpr u))) (fun r => N (q.mp r))
theorem Go.lif_gt (C : Ctx p s m meth c Z a0 ws own nm bytes ml ret) (X : St p l e R s m args below meth c n0 T h cells slots) {x y : Int64} {o : Int} {pc' : Nat} (hd : decode bytes pc = .ok (.ifCond .gt o, 3)) (ho : 0 ≤ (pc : Int) + o) (hp : ((pc : Int) + o).toNat = pc') (Y : y < x → Go p e below s n0 k n Q (T.setTop (mkF m pc' Ls rest))) (N : ¬ y < x → Go p e below s n0 k n Q (T.setTop (mkF m (pc + 3) Ls rest))) : Go p e below s n0 k n Q (T.setTop (mkF m pc Ls (.int (lcmpW x y) :: rest))) := by
  have q := lc_gt x y
  rw [← lcW] at q
  exact Go.if_gt C X hd ho hp (fun r => Y (q.mp r)) (fun r => N (fun u => r (q.mpr u)))
theorem Go.lif_le (C : Ctx p s m meth c Z a0 ws own nm bytes ml ret) (X : St p l e R s m args below meth c n0 T h cells slots) {x y : Int64} {o : Int} {pc' : Nat} (hd : decode bytes pc = .ok (.ifCond .le o, 3)) (ho : 0 ≤ (pc : Int) + o) (hp : ((pc : Int) + o).toNat = pc') (Y : ¬ y < x → Go p e below s n0 k n Q (T.setTop (mkF m pc' Ls rest))) (N : y < x → Go p e below s n0 k n Q (T.setTop (mkF m (pc + 3) Ls rest))) : Go p e below s n0 k n Q (T.setTop (mkF m pc Ls (.int (lcmpW x y) :: rest))) := by
  have q := lc_gt x y
  rw [← lcW] at q
  exact Go.if_le C X hd ho hp (fun r => Y (fun u => r (q.mpr u))) (fun r => N (q.mp r))
theorem Go.acmp_eq (C : Ctx p s m meth c Z a0 ws own nm bytes ml ret) (X : St p l e R s m args below meth c n0 T h cells slots) {x y : Value} (h1 : x.isRef = true) (h2 : y.isRef = true) {o : Int} {pc' : Nat} (hd : decode bytes pc = .ok (.if_acmp .eq o, 3)) (ho : 0 ≤ (pc : Int) + o) (hp : ((pc : Int) + o).toNat = pc') (Y : x = y → Go p e below s n0 k n Q (T.setTop (mkF m pc' Ls rest))) (N : ¬ x = y → Go p e below s n0 k n Q (T.setTop (mkF m (pc + 3) Ls rest))) : Go p e below s n0 k n Q (T.setTop (mkF m pc Ls (y :: x :: rest))) := by
  obtain ⟨-, -, _, -, X⟩ := X
  by_cases q : x = y
  · exact Go.st (fun _ => Jvm.RoadKit.acmp (g := mkF m pc Ls (y :: x :: rest)) X C.hx rfl h1 h2 (same := true) rfl (hb C.hby hd) rfl (decide_eq_true q) ho (by rw [← hp]; rfl)) (Y q)
  · exact Go.st (fun _ => Jvm.RoadKit.acmp (g := mkF m pc Ls (y :: x :: rest)) X C.hx rfl h1 h2 (same := false) rfl (hb C.hby hd) rfl (decide_eq_false q) ho (by rfl)) (N q)
theorem Go.acmp_ne (C : Ctx p s m meth c Z a0 ws own nm bytes ml ret) (X : St p l e R s m args below meth c n0 T h cells slots) {x y : Value} (h1 : x.isRef = true) (h2 : y.isRef = true) {o : Int} {pc' : Nat} (hd : decode bytes pc = .ok (.if_acmp .ne o, 3)) (ho : 0 ≤ (pc : Int) + o) (hp : ((pc : Int) + o).toNat = pc') (Y : ¬ x = y → Go p e below s n0 k n Q (T.setTop (mkF m pc' Ls rest))) (N : x = y → Go p e below s n0 k n Q (T.setTop (mkF m (pc + 3) Ls rest))) : Go p e below s n0 k n Q (T.setTop (mkF m pc Ls (y :: x :: rest))) := by
  obtain ⟨-, -, _, -, X⟩ := X
  by_cases q : x = y
  · exact Go.st (fun _ => Jvm.RoadKit.acmp (g := mkF m pc Ls (y :: x :: rest)) X C.hx rfl h1 h2 (same := true) rfl (hb C.hby hd) rfl (decide_eq_true q) ho (by rfl)) (N q)
  · exact Go.st (fun _ => Jvm.RoadKit.acmp (g := mkF m pc Ls (y :: x :: rest)) X C.hx rfl h1 h2 (same := false) rfl (hb C.hby hd) rfl (decide_eq_false q) ho (by rw [← hp]; rfl)) (Y q)
theorem Go.getF (C : Ctx p s m meth c Z a0 ws own nm bytes ml ret) (X : St p l e R s m args below meth c n0 T h cells slots) {O n1 d : String} {i : Nat} {a : Addr} {v : Value} (w : Jvm.Cond.fieldLink own i O n1 d ∈ ws) (F : Fld Z h a O n1 d v) (hd : decode bytes pc = .ok (.getfield i, 3)) (K : ∀ T', St p l e R s m args below meth c n0 T' h cells slots → Go p e below s n0 k n Q (T'.setTop (mkF m (pc + 3) Ls (v :: rest)))) : Go p e below s n0 k n Q (T.setTop (mkF m pc Ls (.ref a :: rest))) := by
  obtain ⟨e0, hz, locs, N, X⟩ := X
  obtain ⟨T', X', e', st⟩ := Jvm.RoadKit.getF X C.hx C.hZ C.hown (host := "") (Or.inl (C.w w)) Via.refl e0 F (g := mkF m pc Ls (.ref a :: rest)) rfl rfl (hb C.hby hd)
  exact Go.st st (K T' ⟨e', hz, locs, N, X'⟩)
theorem Go.getS (C : Ctx p s m meth c Z a0 ws own nm bytes ml ret) (X : St p l e R s m args below meth c n0 T h cells slots) {O n1 d : String} {i : Nat} {v : Value} (w : Jvm.Cond.fieldLink own i O n1 d ∈ ws) (F : Sta Z h O n1 d v) (hd : decode bytes pc = .ok (.getstatic i, 3)) (K : ∀ T', St p l e R s m args below meth c n0 T' h cells slots → Go p e below s n0 k n Q (T'.setTop (mkF m (pc + 3) Ls (v :: stk)))) : Go p e below s n0 k n Q (T.setTop (mkF m pc Ls stk)) := by
  obtain ⟨e0, hz, locs, N, X⟩ := X
  obtain ⟨T', X', e', st⟩ := Jvm.RoadKit.getS2 X C.hx C.hZ C.hown (host := "") (Or.inl (C.w w)) Via.refl e0 F (g := mkF m pc Ls stk) rfl (hb C.hby hd)
  exact Go.st st (K T' ⟨e', hz, locs, N, X'⟩)
theorem Go.putF (C : Ctx p s m meth c Z a0 ws own nm bytes ml ret) (X : St p l e R s m args below meth c n0 T h cells slots) {O n1 d C1 : String} {i kk : Nat} {ty : FieldType} {a : Addr} {v old : Value} (w : Jvm.Cond.fieldLink own i O n1 d ∈ ws) (F : Fld Z h a O n1 d old) (E : Exa Z h a C1) (L : Jvm.Cond.lays C1 O n1 d ∈ ws ∨ (Jvm.Cond.laysFinal C1 O n1 d ∈ ws ∧ own = O ∧ nm = "<init>")) (wi : Jvm.Cond.instantiable C1 kk ∈ ws)
    (hty : parseFieldDescriptor d = some ty) (hn : narrow ty v = v) (hf : fits ty v = true) (ha : n0 ≤ a) (hd : decode bytes pc = .ok (.putfield i, 3)) (K : ∀ T' h', St p l e R s m args below meth c n0 T' h' cells slots → Wr h h' a (Jvm.RoadKit.slotOf Z O n1 d) v → Fld Z h' a O n1 d v → Go p e below s n0 k n Q (T'.setTop (mkF m (pc + 3) Ls rest))) : Go p e below s n0 k n Q (T.setTop (mkF m pc Ls (v :: .ref a :: rest))) := by
  obtain ⟨e0, hz, locs, N, X⟩ := X
  obtain ⟨T', h', X', e', W, st⟩ := Jvm.RoadKit.putF X C.hx C.hZ C.hown (host := "") (Or.inl (C.w w)) Via.refl e0 F E (L.imp (fun q => C.w q) (fun q => ⟨C.w q.1, q.2.1, C.hnm.trans q.2.2⟩)) (C.w wi) hty hn hf (g := mkF m pc Ls (v :: .ref a :: rest)) rfl rfl (hb C.hby hd)
  exact Go.st st (K T' h' ⟨e', hz, _, Fr.snoc X' N ha, X'⟩ W (F.same W))
theorem Go.newO (C : Ctx p s m meth c Z a0 ws own nm bytes ml ret) (X : St p l e R s m args below meth c n0 T h cells slots) {C1 : String} {i kk : Nat} (w : Jvm.Cond.classLink own i C1 ∈ ws) (wi : Jvm.Cond.instantiable C1 kk ∈ ws) (wz : Jvm.Cond.initialized C1 ∈ ws) (hd : decode bytes pc = .ok (.new i, 3)) (hc : cells + 1 ≤ R.cells) (hl : slots + kk ≤ R.slots)
    (K : ∀ T' h' b, h.size = b → n0 ≤ b → St p l e R s m args below meth c n0 T' h' (cells + 1) (slots + kk) → Ext h h' → Exa Z h' b C1 → (∀ {O n1 d : String} {ty : FieldType}, (Jvm.Cond.lays C1 O n1 d ∈ ws ∨ Jvm.Cond.laysFinal C1 O n1 d ∈ ws) → parseFieldDescriptor d = some ty → Fld Z h' b O n1 d (defaultValue ty)) → Go p e below s n0 k n Q (T'.setTop (mkF m (pc + 3) Ls (.ref b :: stk)))) : Go p e below s n0 k n Q (T.setTop (mkF m pc Ls stk)) := by
  have hs := X.size
  obtain ⟨e0, hz, locs, N, X⟩ := X
  obtain ⟨T', h', X', e', E, E1, D, -, st⟩ := Jvm.RoadKit.newO X C.hx C.hZ C.hown (C.w w) (C.w wi) (C.w wz) e0 (g := mkF m pc Ls stk) rfl (hb C.hby hd) hc hl
  exact Go.st st (K T' h' _ rfl hs ⟨e', hz, _, N, X'⟩ E E1 (fun q r => D (q.imp (fun q => C.w q) (fun q => C.w q)) r))
theorem AR.of {cA : ClassId} {ty : FieldType} {z : Int32} {a : Addr} (F : Arr Z h a (newA cA ty z) ty) (q : ¬ z < 0) : AR Z h a ty (List.replicate z.toNatClampNeg (defaultValue ty)) :=
  ⟨_, F, by simp [newA], by rw [List.length_replicate]; exact (back32 q).2⟩
theorem Go.newP (C : Ctx p s m meth c Z a0 ws own nm bytes ml ret) (X : St p l e R s m args below meth c n0 T h cells slots) {aty : ArrayType} {z : Int32} {cap : Nat} (w : Jvm.Cond.arrayClass (newarray.typeOf aty) ∈ ws) (hd : decode bytes pc = .ok (.newarray aty, 2)) (hn : ¬ z < 0) (hcap : z.toNatClampNeg ≤ cap) (hb8 : cap * 8 ≤ 536870912) (hc : cells + 1 ≤ R.cells) (hl : slots + cap ≤ R.slots)
    (K : ∀ T' h' b, h.size = b → n0 ≤ b → St p l e R s m args below meth c n0 T' h' (cells + 1) (slots + cap) → Ext h h' → AR Z h' b (newarray.typeOf aty) (List.replicate z.toNatClampNeg (defaultValue (newarray.typeOf aty))) → Go p e below s n0 k n Q (T'.setTop (mkF m (pc + 2) Ls (.ref b :: rest)))) : Go p e below s n0 k n Q (T.setTop (mkF m pc Ls (.int z :: rest))) := by
  have hs := X.size
  obtain ⟨e0, hz, locs, N, X⟩ := X
  obtain ⟨T', h', cA, X', e', E, F, st⟩ := Jvm.RoadKit.newP X C.hx C.hZ (C.w w) e0 (g := mkF m pc Ls (.int z :: rest)) rfl (hb C.hby hd) rfl hn hcap hb8 hc hl
  exact Go.st st (K T' h' _ rfl hs ⟨e', hz, _, N, X'⟩ E (AR.of F hn))
theorem AR.lt {a : Addr} {ty : FieldType} {vs : List Value} (F : AR Z h a ty vs) : a < h.size := by obtain ⟨c, A, -⟩ := F; exact A.lt
theorem AR.ext {a : Addr} {ty : FieldType} {vs : List Value} (F : AR Z h a ty vs) (E : Ext h h') : AR Z h' a ty vs := by obtain ⟨c, A, r⟩ := F; exact ⟨c, A.ext E, r⟩
theorem AR.other {a b : Addr} {ty : FieldType} {vs : List Value} {sl : Nat} {v : Value} (F : AR Z h b ty vs) (W : Wr h h' a sl v) (q : b ≠ a) : AR Z h' b ty vs := by obtain ⟨c, A, r⟩ := F; exact ⟨c, A.other W q, r⟩
theorem AR.keep {a : Addr} {ty : FieldType} {vs : List Value} {us : List Addr} (F : AR Z h a ty vs) (K : Keep h h' us) (q : a ∉ us) : AR Z h' a ty vs := by obtain ⟨c, A, r⟩ := F; exact ⟨c, ⟨K.2.1 a c A.1 q, A.2⟩, r⟩
theorem AR.same {a : Addr} {ty : FieldType} {vs : List Value} {i : Nat} {v : Value} (F : AR Z h a ty vs) (W : Wr h h' a i v) : AR Z h' a ty (vs.set i v) := by
  obtain ⟨c, A, r, q⟩ := F
  refine ⟨_, A.same W, ?_, by rw [List.length_set]; exact q⟩
  simp [Cell.setSlot, r]
theorem AR.in {a : Addr} {ty : FieldType} {vs : List Value} {j : Int32} {c : Cell} (r : c.slots = vs.toArray) (hj : ¬ j < 0) (hl : j.toNatClampNeg < vs.length) : ¬ (j < 0 ∨ c.slots.size ≤ j.toNatClampNeg) := by
  rw [r]; simp; exact ⟨Int32.not_lt.mp hj, hl⟩
theorem AR.ne {a b : Addr} {ty : FieldType} {vs : List Value} (F : AR Z h a ty vs) (g : h.size = b) : a ≠ b := by subst g; exact Nat.ne_of_lt F.lt
theorem ltOf {vs : List Value} {i : Nat} {v : Value} (q : vs[i]? = some v) : i < vs.length := (List.getElem?_eq_some_iff.mp q).1
theorem Go.iaload (C : Ctx p s m meth c Z a0 ws own nm bytes ml ret) (X : St p l e R s m args below meth c n0 T h cells slots) {a : Addr} {vs : List Value} {j : Int32} {x : Int32} (F : AR Z h a .int vs) (hj : ¬ j < 0) (hv : vs[j.toNatClampNeg]? = some (.int x)) (hd : decode bytes pc = .ok (.iaload, 1)) (K : Go p e below s n0 k n Q (T.setTop (mkF m (pc + 1) Ls (.int x :: rest)))) : Go p e below s n0 k n Q (T.setTop (mkF m pc Ls (.int j :: .ref a :: rest))) := by
  obtain ⟨e0, hz, locs, N, X⟩ := X
  obtain ⟨cl, A, r, -⟩ := F
  exact Go.st (X.iaload C.hx (j := j) (v := .int x) (by rw [e0]; exact A.1) (State.isArrayOf_alike C.hZ.alike A.2.1) A.2.2 (AR.in (a := a) (ty := .int) r hj (ltOf hv)) (by rw [r]; simpa using hv) (g := mkF m pc Ls (.int j :: .ref a :: rest)) rfl rfl (hb C.hby hd)) K
theorem Go.laload (C : Ctx p s m meth c Z a0 ws own nm bytes ml ret) (X : St p l e R s m args below meth c n0 T h cells slots) {a : Addr} {vs : List Value} {j : Int32} {x : Int64} (F : AR Z h a .long vs) (hj : ¬ j < 0) (hv : vs[j.toNatClampNeg]? = some (.long x)) (hd : decode bytes pc = .ok (.laload, 1)) (K : Go p e below s n0 k n Q (T.setTop (mkF m (pc + 1) Ls (.long x :: rest)))) : Go p e below s n0 k n Q (T.setTop (mkF m pc Ls (.int j :: .ref a :: rest))) := by
  obtain ⟨e0, hz, locs, N, X⟩ := X
  obtain ⟨cl, A, r, -⟩ := F
  exact Go.st (X.laload C.hx (j := j) (v := .long x) (by rw [e0]; exact A.1) (State.isArrayOf_alike C.hZ.alike A.2.1) A.2.2 (AR.in (a := a) (ty := .long) r hj (ltOf hv)) (by rw [r]; simpa using hv) (g := mkF m pc Ls (.int j :: .ref a :: rest)) rfl rfl (hb C.hby hd)) K
theorem Go.baload (C : Ctx p s m meth c Z a0 ws own nm bytes ml ret) (X : St p l e R s m args below meth c n0 T h cells slots) {a : Addr} {vs : List Value} {j : Int32} {x : Int32} (F : AR Z h a .byte vs) (hj : ¬ j < 0) (hv : vs[j.toNatClampNeg]? = some (.int x)) (hd : decode bytes pc = .ok (.baload, 1)) (K : Go p e below s n0 k n Q (T.setTop (mkF m (pc + 1) Ls (.int x :: rest)))) : Go p e below s n0 k n Q (T.setTop (mkF m pc Ls (.int j :: .ref a :: rest))) := by
  obtain ⟨e0, hz, locs, N, X⟩ := X
  obtain ⟨cl, A, r, -⟩ := F
  exact Go.st (X.baloadBytes C.hx (j := j) (v := .int x) (by rw [e0]; exact A.1) (State.isArrayOf_alike C.hZ.alike A.2.1) A.2.2 (AR.in (a := a) (ty := .byte) r hj (ltOf hv)) (by rw [r]; simpa using hv) (g := mkF m pc Ls (.int j :: .ref a :: rest)) rfl rfl (hb C.hby hd)) K
theorem Go.aaload (C : Ctx p s m meth c Z a0 ws own nm bytes ml ret) (X : St p l e R s m args below meth c n0 T h cells slots) {a : Addr} {ty : FieldType} {vs : List Value} {j : Int32} {v : Value} (F : AR Z h a ty vs) (hty : ty.isReference = true) (hj : ¬ j < 0) (hv : vs[j.toNatClampNeg]? = some v) (hd : decode bytes pc = .ok (.aaload, 1)) (K : Go p e below s n0 k n Q (T.setTop (mkF m (pc + 1) Ls (v :: rest)))) : Go p e below s n0 k n Q (T.setTop (mkF m pc Ls (.int j :: .ref a :: rest))) := by
  obtain ⟨e0, hz, locs, N, X⟩ := X
  obtain ⟨cl, A, r, -⟩ := F
  exact Go.st (X.aaload C.hx (j := j) (v := v) (by rw [e0]; exact A.1) (State.isArrayOf_alike C.hZ.alike A.2.1) hty A.2.2 (AR.in (a := a) (ty := ty) r hj (ltOf hv)) (by rw [r]; simpa using hv) (g := mkF m pc Ls (.int j :: .ref a :: rest)) rfl rfl (hb C.hby hd)) K
theorem Go.alen (C : Ctx p s m meth c Z a0 ws own nm bytes ml ret) (X : St p l e R s m args below meth c n0 T h cells slots) {a : Addr} {ty : FieldType} {vs : List Value} {z : Int32} (F : AR Z h a ty vs) (hz : vs.length.toInt32 = z) (hd : decode bytes pc = .ok (.arraylength, 1)) (K : Go p e below s n0 k n Q (T.setTop (mkF m (pc + 1) Ls (.int z :: rest)))) : Go p e below s n0 k n Q (T.setTop (mkF m pc Ls (.ref a :: rest))) := by
  subst hz
  obtain ⟨e0, hz, locs, N, X⟩ := X
  obtain ⟨cl, A, r, -⟩ := F
  refine Go.st (X.arraylength C.hx (by rw [e0]; exact A.1) (State.isArrayOf_alike C.hZ.alike A.2.1) (g := mkF m pc Ls (.ref a :: rest)) rfl rfl (hb C.hby hd)) ?_
  rw [r]
  simpa using K
theorem Go.iastore (C : Ctx p s m meth c Z a0 ws own nm bytes ml ret) (X : St p l e R s m args below meth c n0 T h cells slots) {a : Addr} {vs : List Value} {j : Int32} {x : Int32} (F : AR Z h a .int vs) (hj : ¬ j < 0) (hl : j.toNatClampNeg < vs.length) (ha : n0 ≤ a) (hd : decode bytes pc = .ok (.iastore, 1)) (K : ∀ T' h', St p l e R s m args below meth c n0 T' h' cells slots → Wr h h' a j.toNatClampNeg (.int x) → AR Z h' a .int (vs.set j.toNatClampNeg (.int x)) → Go p e below s n0 k n Q (T'.setTop (mkF m (pc + 1) Ls rest))) : Go p e below s n0 k n Q (T.setTop (mkF m pc Ls (.int x :: .int j :: .ref a :: rest))) := by
  obtain ⟨e0, hz, locs, N, X⟩ := X
  have F0 := F
  obtain ⟨cl, A, r, -⟩ := F
  obtain ⟨T', h', X', e', W, st⟩ := Jvm.RoadKit.stI X C.hx C.hZ e0 A (j := j) (x := x) (AR.in (a := a) (ty := .int) r hj hl) (g := mkF m pc Ls (.int x :: .int j :: .ref a :: rest)) rfl rfl (hb C.hby hd)
  exact Go.st st (K T' h' ⟨e', hz, _, Fr.snoc X' N ha, X'⟩ W (F0.same W))
theorem Go.lastore (C : Ctx p s m meth c Z a0 ws own nm bytes ml ret) (X : St p l e R s m args below meth c n0 T h cells slots) {a : Addr} {vs : List Value} {j : Int32} {x : Int64} (F : AR Z h a .long vs) (hj : ¬ j < 0) (hl : j.toNatClampNeg < vs.length) (ha : n0 ≤ a) (hd : decode bytes pc = .ok (.lastore, 1)) (K : ∀ T' h', St p l e R s m args below meth c n0 T' h' cells slots → Wr h h' a j.toNatClampNeg (.long x) → AR Z h' a .long (vs.set j.toNatClampNeg (.long x)) → Go p e below s n0 k n Q (T'.setTop (mkF m (pc + 1) Ls rest))) : Go p e below s n0 k n Q (T.setTop (mkF m pc Ls (.long x :: .int j :: .ref a :: rest))) := by
  obtain ⟨e0, hz, locs, N, X⟩ := X
  have F0 := F
  obtain ⟨cl, A, r, -⟩ := F
  obtain ⟨T', h', X', e', W, st⟩ := Jvm.RoadKit.stJ X C.hx C.hZ e0 A (j := j) (x := x) (AR.in (a := a) (ty := .long) r hj hl) (g := mkF m pc Ls (.long x :: .int j :: .ref a :: rest)) rfl rfl (hb C.hby hd)
  exact Go.st st (K T' h' ⟨e', hz, _, Fr.snoc X' N ha, X'⟩ W (F0.same W))
theorem Go.bastore (C : Ctx p s m meth c Z a0 ws own nm bytes ml ret) (X : St p l e R s m args below meth c n0 T h cells slots) {a : Addr} {vs : List Value} {j : Int32} {x : Int32} (F : AR Z h a .byte vs) (hj : ¬ j < 0) (hl : j.toNatClampNeg < vs.length) (ha : n0 ≤ a) (hd : decode bytes pc = .ok (.bastore, 1)) (K : ∀ T' h', St p l e R s m args below meth c n0 T' h' cells slots → Wr h h' a j.toNatClampNeg (.int (nar .byte x)) → AR Z h' a .byte (vs.set j.toNatClampNeg (.int (nar .byte x))) → Go p e below s n0 k n Q (T'.setTop (mkF m (pc + 1) Ls rest))) : Go p e below s n0 k n Q (T.setTop (mkF m pc Ls (.int x :: .int j :: .ref a :: rest))) := by
  obtain ⟨e0, hz, locs, N, X⟩ := X
  have F0 := F
  obtain ⟨cl, A, r, -⟩ := F
  obtain ⟨T', h', X', e', W, st⟩ := Jvm.RoadKit.stB X C.hx C.hZ e0 A (j := j) (x := x) (AR.in (a := a) (ty := .byte) r hj hl) (g := mkF m pc Ls (.int x :: .int j :: .ref a :: rest)) rfl rfl (hb C.hby hd)
  exact Go.st st (K T' h' ⟨e', hz, _, Fr.snoc X' N ha, X'⟩ W (F0.same W))
theorem Con.back {y : MethodName} {rm : Room} {as : Array Value} {W : Nat} (H : Con l Z y bytes ml ret [] rm n0 as h Q) (hZ : Z.Warmed39 s.vm) (wc : (Jvm.Cond.code y bytes ml ret).before a0 Z = true) (wz : (Jvm.Cond.initialized y.cls).before a0 Z = true) (hf : rm.frames + 1 ≤ R.frames) (hl : W + (ml + 11) + rm.locals ≤ R.locals) :
    Back l R p e below s args y 3 W (fun A a => a = as ∧ A.U.heap = h ∧ A.cells + rm.cells ≤ R.cells ∧ A.slots + rm.slots ≤ R.slots)
      (fun A _ v B => ∃ L, (Q v B.U.heap ∧ Fr n0 L) ∧ B.locs = A.locs ++ L ∧ B.cells = A.cells + rm.cells ∧ B.slots = A.slots + rm.slots) :=
  backOf (Q := fun v h L => Q v h ∧ Fr n0 L) H hZ wc wz hf hl
theorem Go.callS (C : Ctx p s m meth c Z a0 ws own nm bytes ml ret) (X : St p l e R s m args below meth c n0 T h cells slots) {y : MethodName} {bytes' : ByteArray} {ml' : Nat} {ret' : Option FieldType} {rm : Room} {i W : Nat} {argsL : List Value} {Q' : Option Value → Heap → Prop} (w1 : Jvm.Cond.methodLink own i y ∈ ws) (w2 : Jvm.Cond.static y ∈ ws) (w3 : Jvm.Cond.initialized y.cls ∈ ws) (w4 : Jvm.Cond.code y bytes' ml' ret' ∈ ws) (hy : y.cls ≠ "java/lang/invoke/MethodHandle" ∧ y.cls ≠ "java/lang/invoke/VarHandle")
    (H : Con l Z y bytes' ml' ret' [] rm n0 argsL.toArray h Q') (hfr : rm.frames + 1 ≤ R.frames) (hlo : W + (ml' + 11) + rm.locals ≤ R.locals) (hsz : Ls.size = ml) (hlen : ∀ sig, parseMethodDescriptor y.desc = some sig → argsL.length = sig.parameters.length) (hW : (rest.map fun v => v.category).sum ≤ W) (hstk : stk = argsL.reverse ++ rest) (hd : decode bytes pc = .ok (.invokestatic i, 3)) (hce : cells + rm.cells ≤ R.cells) (hsl : slots + rm.slots ≤ R.slots) (K : ∀ T' h' v, St p l e R s m args below meth c n0 T' h' (cells + rm.cells) (slots + rm.slots) → Q' v h' → Go p e below s n0 k n Q (T'.setTop (mkF m (pc + 3) Ls (v.toList ++ rest)))) : Go p e below s n0 k n Q (T.setTop (mkF m pc Ls stk)) := by
  obtain ⟨e0, hz, locs, N, X⟩ := X
  obtain ⟨v, _, ⟨T', L', k', n'⟩, -, X', ⟨L, hQ, l1, y1, z1⟩, st⟩ := Jvm.LawKit.callS X C.hx (y := y) C.hown (mvT C.hZ (C.w w1)) (mvT C.hZ (C.w w2)) (mvT C.hZ (C.w w3)) (mvT C.hZ (C.w w4)) hy (H.back (W := W) C.hZ (C.w w4) (C.w w3) hfr hlo) (g := mkF m pc Ls stk) rfl (hsz.trans C.hml.symm) (argsL := argsL) (rest := rest) hlen hstk (by show 2 * 0 + _ ≤ _; omega) (hb C.hby hd) (fun _ _ => ⟨rfl, e0, hce, hsl⟩)
  dsimp only [Pt.U, Pt.locs, Pt.cells, Pt.slots] at X' l1 y1 z1 st hQ
  subst l1 y1 z1
  exact Go.st st (K T' _ v ⟨rfl, hz, _, N.app hQ.2, X'⟩ hQ.1)
theorem Go.callInit (C : Ctx p s m meth c Z a0 ws own nm bytes ml ret) (X : St p l e R s m args below meth c n0 T h cells slots) {y : MethodName} {bytes' : ByteArray} {ml' : Nat} {rm : Room} {i W : Nat} {argsL : List Value} {Q' : Option Value → Heap → Prop} {a : Addr} (hy1 : y.name = "<init>") (w1 : Jvm.Cond.methodLink own i y ∈ ws) (w2 : Jvm.Cond.instanceMethod y ∈ ws) (w3 : Jvm.Cond.initialized y.cls ∈ ws) (w4 : Jvm.Cond.code y bytes' ml' none ∈ ws) (hy : y.cls ≠ "java/lang/invoke/MethodHandle" ∧ y.cls ≠ "java/lang/invoke/VarHandle")
    (H : Con l Z y bytes' ml' none [] rm n0 (.ref a :: argsL).toArray h Q') (hfr : rm.frames + 1 ≤ R.frames) (hlo : W + (ml' + 11) + rm.locals ≤ R.locals) (hsz : Ls.size = ml) (hlen : ∀ sig, parseMethodDescriptor y.desc = some sig → argsL.length = sig.parameters.length) (hW : (rest.map fun v => v.category).sum ≤ W) (hstk : stk = argsL.reverse ++ .ref a :: rest) (hd : decode bytes pc = .ok (.invokespecial i, 3)) (hce : cells + rm.cells ≤ R.cells) (hsl : slots + rm.slots ≤ R.slots) (K : ∀ T' h' v, St p l e R s m args below meth c n0 T' h' (cells + rm.cells) (slots + rm.slots) → Q' v h' → Go p e below s n0 k n Q (T'.setTop (mkF m (pc + 3) Ls (v.toList ++ rest)))) : Go p e below s n0 k n Q (T.setTop (mkF m pc Ls stk)) := by
  obtain ⟨e0, hz, locs, N, X⟩ := X
  obtain ⟨v, _, ⟨T', L', k', n'⟩, -, X', ⟨L, hQ, l1, y1, z1⟩, st⟩ := X.specialBack C.hx (y := y) hy1 C.hown (mvT C.hZ (C.w w1)) (mvT C.hZ (C.w w2)) (mvT C.hZ (C.w w4)) hy (H.back (W := W) C.hZ (C.w w4) (C.w w3) hfr hlo) (g := mkF m pc Ls stk) rfl (hsz.trans C.hml.symm) (Steps.refl _) (a := a) (argsL := argsL) (rest := rest) hlen hstk (by show 2 * 0 + _ ≤ _; omega) (hb C.hby hd) (fun _ _ => ⟨rfl, e0, hce, hsl⟩)
  dsimp only [Pt.U, Pt.locs, Pt.cells, Pt.slots] at X' l1 y1 z1 st hQ
  subst l1 y1 z1
  exact Go.tr st (K T' _ v ⟨rfl, hz, _, N.app hQ.2, X'⟩ hQ.1)
theorem Go.callV (C : Ctx p s m meth c Z a0 ws own nm bytes ml ret) (X : St p l e R s m args below meth c n0 T h cells slots) {y : MethodName} {bytes' : ByteArray} {ml' : Nat} {ret' : Option FieldType} {rm : Room} {i W : Nat} {argsL : List Value} {Q' : Option Value → Heap → Prop} {a : Addr} {C1 : String} (E : Exa Z h a C1) (w1 : Jvm.Cond.methodLink own i y ∈ ws) (w2 : Jvm.Cond.declares y ∈ ws) (w5 : Jvm.Cond.selects C1 y y ∈ ws) (w6 : Jvm.Cond.instanceMethod y ∈ ws) (w3 : Jvm.Cond.initialized y.cls ∈ ws) (w4 : Jvm.Cond.code y bytes' ml' ret' ∈ ws) (hy : y.cls ≠ "java/lang/invoke/MethodHandle" ∧ y.cls ≠ "java/lang/invoke/VarHandle") (hC1 : C1 = y.cls)
    (H : Con l Z y bytes' ml' ret' [] rm n0 (.ref a :: argsL).toArray h Q') (hfr : rm.frames + 1 ≤ R.frames) (hlo : W + (ml' + 11) + rm.locals ≤ R.locals) (hsz : Ls.size = ml) (hlen : ∀ sig, parseMethodDescriptor y.desc = some sig → argsL.length = sig.parameters.length) (hW : (rest.map fun v => v.category).sum ≤ W) (hstk : stk = argsL.reverse ++ .ref a :: rest) (hd : decode bytes pc = .ok (.invokevirtual i, 3)) (hce : cells + rm.cells ≤ R.cells) (hsl : slots + rm.slots ≤ R.slots) (K : ∀ T' h' v, St p l e R s m args below meth c n0 T' h' (cells + rm.cells) (slots + rm.slots) → Q' v h' → Go p e below s n0 k n Q (T'.setTop (mkF m (pc + 3) Ls (v.toList ++ rest)))) : Go p e below s n0 k n Q (T.setTop (mkF m pc Ls stk)) := by
  subst hC1
  obtain ⟨e0, hz, locs, N, X⟩ := X
  obtain ⟨cq, kq, qa, qb, qc⟩ := isOf (T := T) C.hZ e0 E
  obtain ⟨v, _, ⟨T', L', k', n'⟩, -, X', ⟨L, hQ, l1, y1, z1⟩, st⟩ := X.virtualBack C.hx (y := y) (z := y) C.hown (mvT C.hZ (C.w w1)) (mvT C.hZ (C.w w2)) (notFace_of_selects (args := #[]) (mvT C.hZ (C.w w5))) (mvT C.hZ (C.w w5)) (mvT C.hZ (C.w w6)) hy (H.back (W := W) C.hZ (C.w w4) (C.w w3) hfr hlo) qa qc (g := mkF m pc Ls stk) rfl (hsz.trans C.hml.symm) (Steps.refl _) (argsL := argsL) (rest := rest) hlen hstk (by show 2 * 0 + _ ≤ _; omega) (hb C.hby hd) (fun _ _ => ⟨rfl, e0, hce, hsl⟩)
  dsimp only [Pt.U, Pt.locs, Pt.cells, Pt.slots] at X' l1 y1 z1 st hQ
  subst l1 y1 z1
  exact Go.tr st (K T' _ v ⟨rfl, hz, _, N.app hQ.2, X'⟩ hQ.1)
theorem Go.initO (C : Ctx p s m meth c Z a0 ws own nm bytes ml ret) (X : St p l e R s m args below meth c n0 T h cells slots) {i W : Nat} {a : Addr} (w1 : Jvm.Cond.methodLink own i Lib.objectInit ∈ ws) (w2 : Jvm.Cond.instanceMethod Lib.objectInit ∈ ws) (w3 : Jvm.Cond.code Lib.objectInit ⟨#[0xb1]⟩ 1 none ∈ ws) (hsz : Ls.size = ml) (hd : decode bytes pc = .ok (.invokespecial i, 3)) (hf : 1 ≤ R.frames) (hW : (rest.map fun v => v.category).sum ≤ W) (hl : W + 12 ≤ R.locals) (K : ∀ T', St p l e R s m args below meth c n0 T' h cells slots → Go p e below s n0 k n Q (T'.setTop (mkF m (pc + 3) Ls rest))) : Go p e below s n0 k n Q (T.setTop (mkF m pc Ls (.ref a :: rest))) := by
  obtain ⟨e0, hz, locs, N, X⟩ := X
  obtain ⟨T', X', e', st⟩ := Jvm.RoadKit.initO X C.hx C.hZ C.hown (C.w w1) (C.w w2) (C.w w3) e0 (g := mkF m pc Ls (.ref a :: rest)) rfl (hsz.trans C.hml.symm) rfl (hb C.hby hd) hf (W := W) (by show 2 * 0 + _ ≤ _; omega) hl
  exact Go.st st (K T' ⟨e', hz, locs, N, X'⟩)
theorem Go.ldcI (C : Ctx p s m meth c Z a0 ws own nm bytes ml ret) (X : St p l e R s m args below meth c n0 T h cells slots) {i : Nat} {x : Int32} (w : Jvm.Cond.constant own i x ∈ ws) (hd : decode bytes pc = .ok (.ldc i, 2)) (K : Go p e below s n0 k n Q (T.setTop (mkF m (pc + 2) Ls (.int x :: stk)))) : Go p e below s n0 k n Q (T.setTop (mkF m pc Ls stk)) := by
  obtain ⟨e0, hz, locs, N, X⟩ := X
  exact Go.st (fun _ => X.ldcI (g := mkF m pc Ls stk) C.hx C.hown (mvT C.hZ (C.w w)) rfl (hb C.hby hd)) K
theorem Go.ldcW (C : Ctx p s m meth c Z a0 ws own nm bytes ml ret) (X : St p l e R s m args below meth c n0 T h cells slots) {i : Nat} {x : Int32} (w : Jvm.Cond.constant own i x ∈ ws) (hd : decode bytes pc = .ok (.ldc_w i, 3)) (K : Go p e below s n0 k n Q (T.setTop (mkF m (pc + 3) Ls (.int x :: stk)))) : Go p e below s n0 k n Q (T.setTop (mkF m pc Ls stk)) := by
  obtain ⟨e0, hz, locs, N, X⟩ := X
  exact Go.st (fun _ => X.ldcWI (g := mkF m pc Ls stk) C.hx C.hown (mvT C.hZ (C.w w)) rfl (hb C.hby hd)) K
theorem Go.ldcJ (C : Ctx p s m meth c Z a0 ws own nm bytes ml ret) (X : St p l e R s m args below meth c n0 T h cells slots) {i : Nat} {x : Int64} (w : Jvm.Cond.constantLong own i x ∈ ws) (hd : decode bytes pc = .ok (.ldc2_w i, 3)) (K : Go p e below s n0 k n Q (T.setTop (mkF m (pc + 3) Ls (.long x :: stk)))) : Go p e below s n0 k n Q (T.setTop (mkF m pc Ls stk)) := by
  obtain ⟨e0, hz, locs, N, X⟩ := X
  exact Go.st (fun _ => X.ldc2J (g := mkF m pc Ls stk) C.hx C.hown (mvT C.hZ (C.w w)) rfl (hb C.hby hd)) K
theorem Go.irem (C : Ctx p s m meth c Z a0 ws own nm bytes ml ret) (X : St p l e R s m args below meth c n0 T h cells slots) {x y : Int32} (hy : y ≠ 0) (hd : decode bytes pc = .ok (.irem, 1)) (K : Go p e below s n0 k n Q (T.setTop (mkF m (pc + 1) Ls (.int (x % y) :: rest)))) : Go p e below s n0 k n Q (T.setTop (mkF m pc Ls (.int y :: .int x :: rest))) := by
  obtain ⟨e0, hz, locs, N, X⟩ := X
  exact Go.st (fun _ => Jvm.RoadKit.iremM (g := mkF m pc Ls (.int y :: .int x :: rest)) X C.hx rfl (hb C.hby hd) rfl hy) K
theorem Go.lrem (C : Ctx p s m meth c Z a0 ws own nm bytes ml ret) (X : St p l e R s m args below meth c n0 T h cells slots) {x y : Int64} (hy : y ≠ 0) (hd : decode bytes pc = .ok (.lrem, 1)) (K : Go p e below s n0 k n Q (T.setTop (mkF m (pc + 1) Ls (.long (x % y) :: rest)))) : Go p e below s n0 k n Q (T.setTop (mkF m pc Ls (.long y :: .long x :: rest))) := by
  refine Go.st (fun _ => XS.lrem (g := mkF m pc Ls (.long y :: .long x :: rest)) X.here C.hx rfl (hb C.hby hd) rfl hy) ?_
  rw [lrem_mod]
  exact K
theorem Go.dupX2 (C : Ctx p s m meth c Z a0 ws own nm bytes ml ret) (X : St p l e R s m args below meth c n0 T h cells slots) {x y z : Value} (h1 : x.category = 1) (h2 : y.category = 1) (h3 : z.category = 1) (hd : decode bytes pc = .ok (.dup_x2, 1)) (K : Go p e below s n0 k n Q (T.setTop (mkF m (pc + 1) Ls (x :: y :: z :: x :: rest)))) : Go p e below s n0 k n Q (T.setTop (mkF m pc Ls (x :: y :: z :: rest))) := by
  refine Go.st (fun t hr => ?_) K
  have hx := C.hx
  have hd' := hb C.hby hd
  jvm_step X.here [X.here.top, hx, hd', h1, h2, h3]
  exact hr
theorem eqI_v {args : Array Value} {first s : State} {o : Option Outcome} {idx : List Nat} {t : Term} {z : Int32} (q : (Jvm.Cond.eq t (Term.int z)).value args first o s idx = some true) : t.eval args first o idx s = some (.int z) := by
  obtain ⟨x, y, ha, hb, k1, k2⟩ := cmp_v (Or.inl q)
  have hy : y = .int z := by
    have r := Term.int_eval (args := args) (first := first) (o := o) (idx := idx) (s := s) z
    rw [r] at hb; exact (Option.some.inj hb).symm
  subst hy
  obtain ⟨u, rfl⟩ := k2
  rw [ha, gotT (Cond.eq_ints ha hb) q]
theorem fieldNe {args : Array Value} {first s : State} {o : Option Outcome} {idx : List Nat} {t t' : Term} {C f d : String} {a b : Addr} {z z' : Int32} (h1 : t.eval args first o idx s = some (.ref a)) (h2 : t'.eval args first o idx s = some (.ref b)) (q1 : (Jvm.Cond.eq (Term.field t C f d) (Term.int z)).value args first o s idx = some true) (q2 : (Jvm.Cond.eq (Term.field t' C f d) (Term.int z')).value args first o s idx = some true) (hz : z ≠ z') : a ≠ b := by
  intro r; subst r
  have e1 := eqI_v q1; have e2 := eqI_v q2
  rw [fld_at h1] at e1; rw [fld_at h2] at e2
  rw [e1] at e2
  cases e2; exact hz rfl
/-- an array whose elements are known and that may be cloned -/
def AF (Z : State) (h : Heap) (a : Addr) (ty : FieldType) (vs : List Value) : Prop := ∃ c : Cell, Arr Z h a c ty ∧ c.slots = vs.toArray ∧ vs.length < 2 ^ 31 ∧ FitC Z c
theorem AF.ar {a : Addr} {ty : FieldType} {vs : List Value} (F : AF Z h a ty vs) : AR Z h a ty vs := by obtain ⟨c, A, r, q, -⟩ := F; exact ⟨c, A, r, q⟩
theorem Go.clone (C : Ctx p s m meth c Z a0 ws own nm bytes ml ret) (X : St p l e R s m args below meth c n0 T h cells slots) {ad : String} {i W cap : Nat} {a : Addr} {ty : FieldType} {vs : List Value} (w1 : Jvm.Cond.methodLink own i ⟨ad, "clone", "()Ljava/lang/Object;"⟩ ∈ ws) (w2 : Jvm.Cond.sameMethod ad "java/lang/Object" "clone" "()Ljava/lang/Object;" ∈ ws) (w3 : Jvm.Cond.native ⟨"java/lang/Object", "clone", "()Ljava/lang/Object;"⟩ ∈ ws) (w4 : Jvm.Cond.instanceMethod ⟨"java/lang/Object", "clone", "()Ljava/lang/Object;"⟩ ∈ ws)
    (w5 : Jvm.Cond.selects ad ⟨ad, "clone", "()Ljava/lang/Object;"⟩ ⟨"java/lang/Object", "clone", "()Ljava/lang/Object;"⟩ ∈ ws) (w6 : Jvm.Cond.castable ad "java/lang/Cloneable" ∈ ws) (F : AF Z h a ty vs) (E : Exa Z h a ad) (hsz : Ls.size = ml) (hd : decode bytes pc = .ok (.invokevirtual i, 3)) (hf : 1 ≤ R.frames) (hW : (rest.map fun v => v.category).sum ≤ W) (hl : W + 14 ≤ R.locals) (hcap : vs.length ≤ cap) (hc : cells + 1 ≤ R.cells) (hsl : slots + cap ≤ R.slots)
    (K : ∀ T' h' b, h.size = b → n0 ≤ b → St p l e R s m args below meth c n0 T' h' (cells + 1) (slots + cap) → Ext h h' → AR Z h' b ty vs → Exa Z h' b ad → Go p e below s n0 k n Q (T'.setTop (mkF m (pc + 3) Ls (.ref b :: rest)))) : Go p e below s n0 k n Q (T.setTop (mkF m pc Ls (.ref a :: rest))) := by
  have hs := X.size
  obtain ⟨e0, hz, locs, N, X⟩ := X
  obtain ⟨cl, A, r, q, FC⟩ := F
  obtain ⟨T', h', X', e', Ex, A', E', st⟩ := Jvm.RoadKit.cloneA X C.hx C.hZ C.hown (C.w w1) (C.w w2) (C.w w3) (C.w w4) (C.w w5) (C.w w6) e0 A E FC (g := mkF m pc Ls (.ref a :: rest)) rfl (hsz.trans C.hml.symm) rfl (hb C.hby hd) hf (W := W) (cap := cap) (by show 2 * 0 + _ ≤ _; omega) hl (by rw [r]; simpa using hcap) hc hsl
  exact Go.st st (K T' h' _ rfl hs ⟨e', hz, _, N, X'⟩ Ex ⟨_, A', r, q⟩ E')
theorem Go.cast (C : Ctx p s m meth c Z a0 ws own nm bytes ml ret) (X : St p l e R s m args below meth c n0 T h cells slots) {i : Nat} {K1 : String} {a : Addr} (w : Jvm.Cond.classLink own i K1 ∈ ws) (F : Ins Z h a K1 true) (hd : decode bytes pc = .ok (.checkcast i, 3)) (K : ∀ T', St p l e R s m args below meth c n0 T' h cells slots → Go p e below s n0 k n Q (T'.setTop (mkF m (pc + 3) Ls (.ref a :: rest)))) : Go p e below s n0 k n Q (T.setTop (mkF m pc Ls (.ref a :: rest))) := by
  obtain ⟨e0, hz, locs, N, X⟩ := X
  obtain ⟨T', X', e', st⟩ := Jvm.RoadKit.castY X C.hx C.hZ C.hown (C.w w) e0 F (g := mkF m pc Ls (.ref a :: rest)) rfl rfl (hb C.hby hd)
  exact Go.st st (K T' ⟨e', hz, locs, N, X'⟩)
theorem elemRef {args : Array Value} {s : State} {t t' : Term} {a x : Addr} {cl : Cell} {j : Int32} (q : (Jvm.Cond.eq (Term.elem t (Term.int j)) t').value args s none s [] = some true) (ht : t.eval args s none [] s = some (.ref a)) (ht' : t'.eval args s none [] s = some (.ref x)) (hc : s.heap[a]? = some cl) : cl.slots[j.toNatClampNeg]? = some (.ref x) := by
  obtain ⟨u, v, ha, hb, k1, k2⟩ := cmp_v (Or.inl q)
  rw [ht'] at hb
  cases hb
  have e := gotT (eq_R ha ht' k2.2 rfl) q
  subst e
  exact (elem_in ha ht (Term.int_eval j) hc).2
theorem fldI {args : Array Value} {s : State} {t : Term} {a : Addr} {C f d : String} {z : Int32} (q : (Jvm.Cond.eq (Term.field t C f d) (Term.int z)).value args s none s [] = some true) (ht : t.eval args s none [] s = some (.ref a)) : Fld s s.heap a C f d (.int z) := by
  have e := eqI_v q
  rw [fld_at ht] at e
  exact Fld.start e
theorem lenOf' {args : Array Value} {s : State} {t : Term} {a : Addr} {cl : Cell} {ty : FieldType} {z : Int32} (q : (Jvm.Cond.eq (Term.length t) (Term.int z)).value args s none s [] = some true) (ht : t.eval args s none [] s = some (.ref a)) (A : Arr s s.heap a cl ty) : cl.slots.size.toInt32 = z ∧ cl.slots.size < 2 ^ 31 := by
  obtain ⟨b, cell, h1, h2, h3, h4⟩ := Jvm.Lib.length_spec (eqI_v q)
  rw [ht] at h1
  cases h1
  rw [A.fin (Vm.Alike.refl _)] at h2
  cases h2
  exact ⟨(Value.int.inj h4).symm, h3⟩
theorem Go.newPE (C : Ctx p s m meth c Z a0 ws own nm bytes ml ret) (X : St p l e R s m args below meth c n0 T h cells slots) {aty : ArrayType} {z : Int32} {cap : Nat} {ad : String} (w : Jvm.Cond.arrayClass (newarray.typeOf aty) ∈ ws) (had : "[" ++ (newarray.typeOf aty).toString = ad) (hd : decode bytes pc = .ok (.newarray aty, 2)) (hn : ¬ z < 0) (hcap : z.toNatClampNeg ≤ cap) (hb8 : cap * 8 ≤ 536870912) (hc : cells + 1 ≤ R.cells) (hl : slots + cap ≤ R.slots)
    (K : ∀ T' h' b, h.size = b → n0 ≤ b → St p l e R s m args below meth c n0 T' h' (cells + 1) (slots + cap) → Ext h h' → AR Z h' b (newarray.typeOf aty) (List.replicate z.toNatClampNeg (defaultValue (newarray.typeOf aty))) → Exa Z h' b ad → Go p e below s n0 k n Q (T'.setTop (mkF m (pc + 2) Ls (.ref b :: rest)))) : Go p e below s n0 k n Q (T.setTop (mkF m pc Ls (.int z :: rest))) := by
  have hs := X.size
  obtain ⟨e0, hz, locs, N, X⟩ := X
  obtain ⟨T', h', cA, X', e', E, F, EX, st⟩ := Jvm.RoadKit.newPE X C.hx C.hZ (C.w w) e0 (g := mkF m pc Ls (.int z :: rest)) rfl (hb C.hby hd) rfl hn hcap hb8 hc hl had
  exact Go.st st (K T' h' _ rfl hs ⟨e', hz, _, N, X'⟩ E (AR.of F hn) EX)
theorem AF.zero {a : Addr} {N : Nat} (F : AR Z h a .byte (List.replicate N (.int (0 : Int32)))) : AF Z h a .byte (List.replicate N (.int (0 : Int32))) := by
  obtain ⟨c, A, r, q⟩ := F
  refine ⟨c, A, r, q, fitC_of A fun i hi v hv => ?_⟩
  rw [r, List.getElem?_toArray, List.getElem?_replicate] at hv
  split at hv
  · cases hv; rfl
  · cases hv
theorem AR.arv0 {a : Addr} {N : Nat} (F : AR Z h a .byte (List.replicate N (.int (0 : Int32)))) : ∃ k, Arv Z h a k .byte N.toInt32 (List.replicate N (.int (0 : Int32))) (.int (0 : Int32)) := by
  obtain ⟨c, A, r, q⟩ := F
  rw [List.length_replicate] at q
  have sz : c.slots.size = N := by rw [r]; simp
  have cN : N.toInt32.toNatClampNeg = N := by simp only [Int32.toNatClampNeg, len_toInt q]; rfl
  have g0 : ∀ i, (List.replicate N (Value.int (0 : Int32))).getD i (.int (0 : Int32)) = .int (0 : Int32) := fun i => by
    rw [List.getD_eq_getElem?_getD, List.getElem?_replicate]; split <;> rfl
  refine ⟨c.cls, c, A, rfl, by rw [sz, cN], ?_, fun i hi => ?_, fun i _ => by rw [g0]; rfl⟩
  · rw [Int32.lt_iff_toInt_lt, len_toInt q]
    have h0 : (0 : Int32).toInt = 0 := rfl
    omega
  · rw [g0, r]
    rw [sz] at hi
    simp [List.getElem?_replicate, hi]
theorem Arv.ar0 {a : Addr} {k : ClassId} {N : Nat} {vs : List Value} (hN : N < 2 ^ 31) (F : Arv Z h a k .byte N.toInt32 vs (.int (0 : Int32))) (hv : ∀ i, vs.getD i (.int (0 : Int32)) = .int (0 : Int32)) : AR Z h a .byte (List.replicate N (.int (0 : Int32))) := by
  obtain ⟨c, A, -, S, -, H, -⟩ := F
  have cN : N.toInt32.toNatClampNeg = N := by simp only [Int32.toNatClampNeg, len_toInt hN]; rfl
  rw [cN] at S
  refine ⟨c, A, ?_, by rw [List.length_replicate]; exact hN⟩
  apply Array.ext_getElem?
  intro i
  by_cases q : i < N
  · rw [H i (by omega), hv]; simp [List.getElem?_replicate, q]
  · rw [Array.getElem?_eq_none (by omega), Array.getElem?_eq_none (by simp; omega)]
theorem Go.acopy0 (C : Ctx p s m meth c Z a0 ws own nm bytes ml ret) (X : St p l e R s m args below meth c n0 T h cells slots) {i W : Nat} {a b : Addr} {n1 n2 : Nat} {nn : Int32} (w1 : Jvm.Cond.methodLink own i Jvm.Stand.acN ∈ ws) (w2 : Jvm.Cond.native Jvm.Stand.acN ∈ ws) (w3 : Jvm.Cond.static Jvm.Stand.acN ∈ ws) (w4 : Jvm.Cond.initialized "java/lang/System" ∈ ws) (F1 : AR Z h a .byte (List.replicate n1 (.int (0 : Int32)))) (F2 : AR Z h b .byte (List.replicate n2 (.int (0 : Int32)))) (hnn : ¬ nn < 0) (h1 : nn.toNatClampNeg ≤ n1) (h2 : nn.toNatClampNeg ≤ n2) (gb : n0 ≤ b) (hsz : Ls.size = ml)
    (hd : decode bytes pc = .ok (.invokestatic i, 3)) (hf : 1 ≤ R.frames) (hW : (rest.map fun v => v.category).sum ≤ W) (hlo : W + (nativeFrameWords "java/lang/System" "arraycopy" 5 + 11) ≤ R.locals)
    (K : ∀ T' h', St p l e R s m args below meth c n0 T' h' cells slots → Keep h h' [b] → AR Z h' b .byte (List.replicate n2 (.int (0 : Int32))) → Go p e below s n0 k n Q (T'.setTop (mkF m (pc + 3) Ls rest))) : Go p e below s n0 k n Q (T.setTop (mkF m pc Ls (.int nn :: .int 0 :: .ref b :: .int 0 :: .ref a :: rest))) := by
  obtain ⟨e0, hz, locs, N, X⟩ := X
  obtain ⟨k1, V1⟩ := F1.arv0
  obtain ⟨k2, V2⟩ := F2.arv0
  have q1 : n1 < 2 ^ 31 := by obtain ⟨_, _, _, q⟩ := F1; rw [List.length_replicate] at q; exact q
  have q2 : n2 < 2 ^ 31 := by obtain ⟨_, _, _, q⟩ := F2; rw [List.length_replicate] at q; exact q
  have c1 : n1.toInt32.toNatClampNeg = n1 := by simp only [Int32.toNatClampNeg, len_toInt q1]; rfl
  have c2 : n2.toInt32.toNatClampNeg = n2 := by simp only [Int32.toNatClampNeg, len_toInt q2]; rfl
  have z0 : (0 : Int32).toNatClampNeg = 0 := rfl
  obtain ⟨T', h', L, X', e', N', KK, V', st⟩ := cpA X C.hx C.hZ C.hown (C.w w1) (C.w w2) (C.w w3) (C.w w4) e0 V1 V2 (sp := 0) (dp := 0) (nn := nn) (Or.inl ⟨rfl, rfl⟩) (by decide) (by decide) hnn (by rw [z0, c1]; omega) (by rw [z0, c2]; omega) rfl (by rw [z0, List.length_replicate]; omega) N gb (g := mkF m pc Ls (.int nn :: .int 0 :: .ref b :: .int 0 :: .ref a :: rest)) rfl (hsz.trans C.hml.symm) rfl (hb C.hby hd) hf (W := W) (by show 2 * 0 + _ ≤ _; omega) hlo
  refine Go.st st (K T' h' ⟨e', hz, L, N', X'⟩ KK (Arv.ar0 q2 V' fun j => ?_))
  have g0 : ∀ (vs : List Value), (∀ x ∈ vs, x = .int (0 : Int32)) → vs.getD j (.int (0 : Int32)) = .int (0 : Int32) := fun vs hv => by
    rw [List.getD_eq_getElem?_getD]
    cases hq : vs[j]? with
    | none => rfl
    | some x => exact hv x (List.mem_of_getElem? hq)
  refine g0 _ fun x hx => ?_
  rcases List.mem_append.mp hx with hx | hx
  · rcases List.mem_append.mp hx with hx | hx
    · rw [z0] at hx; simp at hx
    · obtain ⟨y, -, rfl⟩ := List.mem_map.mp hx
      rw [List.getD_eq_getElem?_getD, List.getElem?_replicate]; split <;> rfl
  · exact (List.mem_replicate.mp (List.mem_of_mem_drop hx)).2
end One
end Jvm.OwnGo
namespace Jvm.Pilot.@@N@@
open Jvm Jvm.ClassFile Sem Op Lib Jvm.Free Jvm.Stand Jvm.LawKit Jvm.RoadKit Bundle Jvm.OwnGo Jvm.Pilot.@@N@@.Jvm.D
def el (sl : List Int64) (i : Nat) : Int64 := sl.getD i 0
def Esl (sl : List Int64) (i j : Nat) : Bool := decide (i < 6) && decide (j < 6) && decide (el sl i = el sl j)
def fall (E : Nat → Nat → Bool) (B : List Nat) (i : Nat) : Nat → Nat → Nat
  | 0, k => k
  | f + 1, k => if 0 < k ∧ E i k = false then fall E B i f (B.getD (k - 1) 0) else k
def nxt (E : Nat → Nat → Bool) (B : List Nat) (i : Nat) : Nat := if i = 0 then 0 else if E i (fall E B i 6 (B.getD (i - 1) 0)) = true then fall E B i 6 (B.getD (i - 1) 0) + 1 else fall E B i 6 (B.getD (i - 1) 0)
def stepE (E : Nat → Nat → Bool) (B : List Nat) (i : Nat) : List Nat := B.set i (nxt E B i)
def sameE (E : Nat → Nat → Bool) (m k : Nat) : Bool := (List.range k).all (fun j => E j (m - k + j))
def bordE (E : Nat → Nat → Bool) (m : Nat) : Nat := if 5 < m ∧ sameE E m 5 = true then 5 else if 4 < m ∧ sameE E m 4 = true then 4 else if 3 < m ∧ sameE E m 3 = true then 3 else if 2 < m ∧ sameE E m 2 = true then 2 else if 1 < m ∧ sameE E m 1 = true then 1 else 0
def b2i (b : Bool) : Int32 := if b = true then 1 else 0
def fI (k : Nat) : Value := .int k.toInt32
def B0 : List Nat := [0, 0, 0, 0, 0, 0]
def Bn (E : Nat → Nat → Bool) : Nat → List Nat
  | 0 => B0
  | n + 1 => stepE E (Bn E n) n
def Inv (B : List Nat) : Prop := B.length = 6 ∧ ∀ j, B.getD j 0 ≤ j
theorem cl32 {i : Nat} (h : i < 2147483648) : i.toInt32.toNatClampNeg = i := by
  simp only [Int32.toNatClampNeg, len_toInt h]; rfl
theorem nn32 {i : Nat} (h : i < 2147483648) : ¬ i.toInt32 < 0 := by
  rw [Int32.lt_iff_toInt_lt, len_toInt h]
  have h0 : (0 : Int32).toInt = 0 := rfl
  omega
theorem inc32 (i : Nat) : i.toInt32 + (1 : Int32) = (i + 1).toInt32 := by
  apply Int32.toBitVec_inj.mp
  show BitVec.ofNat 32 i + BitVec.ofNat 32 1 = BitVec.ofNat 32 (i + 1)
  rw [BitVec.ofNat_add]
theorem dec32 {i : Nat} (h : 0 < i) : i.toInt32 - (1 : Int32) = (i - 1).toInt32 := by
  obtain ⟨j, rfl⟩ : ∃ j, i = j + 1 := ⟨i - 1, by omega⟩
  rw [← inc32, Int32.add_sub_cancel]; rfl
theorem pos32 {i : Nat} (h : i < 2147483648) : (0 : Int32) < i.toInt32 ↔ 0 < i := by
  rw [Int32.lt_iff_toInt_lt, len_toInt h]
  have h0 : (0 : Int32).toInt = 0 := rfl
  omega
theorem getL {sl : List Int64} (hs : sl.length = 6) {i : Nat} (h : i < 6) : (sl.map Value.long)[i.toInt32.toNatClampNeg]? = some (.long (el sl i)) := by
  show _ = some (Value.long (sl.getD i 0))
  rw [cl32 (by omega), List.getElem?_map, List.getElem?_eq_getElem (by omega), List.getD_eq_getElem?_getD, List.getElem?_eq_getElem (by omega)]; rfl
theorem getB {B : List Nat} (hs : B.length = 6) {i : Nat} (h : i < 6) : (B.map fI)[i.toInt32.toNatClampNeg]? = some (.int (B.getD i 0).toInt32) := by
  rw [cl32 (by omega), List.getElem?_map, List.getElem?_eq_getElem (by omega), List.getD_eq_getElem?_getD, List.getElem?_eq_getElem (by omega)]; rfl
theorem setM (B : List Nat) {i : Nat} (h : i < 6) (x : Nat) : (B.map fI).set i.toInt32.toNatClampNeg (.int x.toInt32) = (B.set i x).map fI := by
  rw [cl32 (by omega), List.map_set]; rfl
theorem Et {sl : List Int64} {i k : Nat} (hi : i < 6) (hk : k < 6) (q : el sl i = el sl k) : Esl sl i k = true := by simp only [Esl, hi, hk, q, decide_true, Bool.and_true]
theorem Ef {sl : List Int64} {i k : Nat} (hi : i < 6) (hk : k < 6) (q : ¬ el sl i = el sl k) : Esl sl i k = false := by simp only [Esl, hi, hk, q, decide_true, decide_false, Bool.and_false]
theorem fall_le {E : Nat → Nat → Bool} {B : List Nat} (h : Inv B) (i : Nat) : ∀ f k, fall E B i f k ≤ k
  | 0, k => Nat.le_refl _
  | f + 1, k => by
    unfold fall
    split
    · rename_i q
      have := fall_le (E := E) h i f (B.getD (k - 1) 0)
      have := h.2 (k - 1)
      omega
    · exact Nat.le_refl _
theorem inv0 : Inv B0 := by
  refine ⟨rfl, fun j => ?_⟩
  unfold B0
  match j with
  | 0 | 1 | 2 | 3 | 4 | 5 => exact Nat.zero_le _
  | j + 6 => exact Nat.zero_le _
theorem inv_step {E : Nat → Nat → Bool} {B : List Nat} (h : Inv B) (i : Nat) : Inv (stepE E B i) := by
  refine ⟨by unfold stepE; rw [List.length_set]; exact h.1, fun j => ?_⟩
  have hn : nxt E B i ≤ i := by
    unfold nxt
    split
    · omega
    · have h1 := fall_le (E := E) h i 6 (B.getD (i - 1) 0)
      have h2 := h.2 (i - 1)
      split <;> omega
  unfold stepE
  rw [List.getD_eq_getElem?_getD, List.getElem?_set]
  have hj := h.2 j
  rw [List.getD_eq_getElem?_getD] at hj
  split
  · rename_i q
    subst q
    split
    · exact hn
    · exact Nat.zero_le _
  · exact hj
theorem inv_n (E : Nat → Nat → Bool) : ∀ n, Inv (Bn E n)
  | 0 => inv0
  | n + 1 => inv_step (inv_n E n) n
def chk (E : Nat → Nat → Bool) : Bool := (List.range 6).all (fun j => (Bn E 6).getD j 0 == bordE E (j + 1))
def Ec (c1 c2 c3 c4 c5 : Nat) (i j : Nat) : Bool := decide (i < 6) && decide (j < 6) && ([0, c1, c2, c3, c4, c5].getD i 0 == [0, c1, c2, c3, c4, c5].getD j 0)
set_option maxRecDepth 65536 in
theorem all_c : ∀ (c1 : Fin 2) (c2 : Fin 3) (c3 : Fin 4) (c4 : Fin 5) (c5 : Fin 6), chk (Ec c1 c2 c3 c4 c5) = true := by decide +kernel
def cx (sl : List Int64) (i : Nat) : Nat := if el sl 0 = el sl i then 0 else if el sl 1 = el sl i then 1 else if el sl 2 = el sl i then 2 else if el sl 3 = el sl i then 3 else if el sl 4 = el sl i then 4 else 5
theorem cx_le (sl : List Int64) (i : Nat) (h : i < 6) : cx sl i ≤ i := by
  unfold cx
  match i, h with
  | 0, _ => simp
  | 1, _ => split <;> simp
  | 2, _ => repeat' split
            all_goals first | omega | simp_all
  | 3, _ => repeat' split
            all_goals first | omega | simp_all
  | 4, _ => repeat' split
            all_goals first | omega | simp_all
  | 5, _ => repeat' split
            all_goals first | omega | simp_all
theorem cx_get (sl : List Int64) (i : Nat) (h : i < 6) : el sl (cx sl i) = el sl i := by
  by_cases q : cx sl i = 5
  · have := cx_le sl i h
    have : i = 5 := by omega
    rw [q, this]
  · unfold cx at q ⊢
    repeat' split
    all_goals first | assumption | (simp_all; done)
theorem cx_iff (sl : List Int64) (i j : Nat) (hi : i < 6) (hj : j < 6) : cx sl i = cx sl j ↔ el sl i = el sl j := by
  constructor
  · intro q; rw [← cx_get sl i hi, ← cx_get sl j hj, q]
  · intro q; unfold cx; rw [q]
theorem Esl_eq (sl : List Int64) : Esl sl = Ec (cx sl 1) (cx sl 2) (cx sl 3) (cx sl 4) (cx sl 5) := by
  funext i j
  unfold Esl Ec
  by_cases hi : i < 6
  · by_cases hj : j < 6
    · have c0 : cx sl 0 = 0 := by unfold cx; simp
      have g : ∀ i, i < 6 → [0, cx sl 1, cx sl 2, cx sl 3, cx sl 4, cx sl 5].getD i 0 = cx sl i := by
        intro i h
        match i, h with
        | 0, _ => exact c0.symm
        | 1, _ => rfl
        | 2, _ => rfl
        | 3, _ => rfl
        | 4, _ => rfl
        | 5, _ => rfl
      rw [g i hi, g j hj]
      have := cx_iff sl i j hi hj
      by_cases q : el sl i = el sl j
      · have r := this.mpr q
        simp only [hi, hj, q, r, decide_true, Bool.and_true, beq_self_eq_true]
      · have r : ¬ cx sl i = cx sl j := fun u => q (this.mp u)
        simp only [hi, hj, q, decide_true, decide_false, Bool.and_false]
        simp [r]
    · simp only [hj, decide_false, Bool.and_false, Bool.false_and]
  · simp only [hi, decide_false, Bool.false_and]
theorem final (sl : List Int64) (j : Nat) (hj : j < 6) : (Bn (Esl sl) 6).getD j 0 = bordE (Esl sl) (j + 1) := by
  have h := all_c ⟨cx sl 1, by have := cx_le sl 1 (by omega); omega⟩ ⟨cx sl 2, by have := cx_le sl 2 (by omega); omega⟩ ⟨cx sl 3, by have := cx_le sl 3 (by omega); omega⟩ ⟨cx sl 4, by have := cx_le sl 4 (by omega); omega⟩ ⟨cx sl 5, by have := cx_le sl 5 (by omega); omega⟩
  rw [← Esl_eq sl] at h
  unfold chk at h
  rw [List.all_eq_true] at h
  exact eq_of_beq (h j (List.mem_range.mpr hj))
theorem eqB {sl : List Int64} {j : Nat} (hj : j < 6) : ((Bn (Esl sl) 6).getD j 0).toInt32 = (bordE (Esl sl) (j + 1)).toInt32 := congrArg Nat.toInt32 (final sl j hj)
theorem b2t {b : Bool} (h : ¬ b2i b = 0) : b = true := by cases b; exact absurd rfl h; rfl
theorem b2f {b : Bool} (h : b2i b = 0) : b = false := by cases b; rfl; exact absurd h (by decide)
theorem d1_0 : decode method_2_code 0 = .ok (.iload_n 0, 1) := by decide +kernel
theorem d1_1 : decode method_2_code 1 = .ok (.ifCond .ne 5, 3) := by decide +kernel
theorem d1_4 : decode method_2_code 4 = .ok (.lload_n 1, 1) := by decide +kernel
theorem d1_5 : decode method_2_code 5 = .ok (.lreturn, 1) := by decide +kernel
theorem d1_6 : decode method_2_code 6 = .ok (.iload_n 0, 1) := by decide +kernel
theorem d1_7 : decode method_2_code 7 = .ok (.iconst 1, 1) := by decide +kernel
theorem d1_8 : decode method_2_code 8 = .ok (.if_icmp .ne 5, 3) := by decide +kernel
theorem d1_11 : decode method_2_code 11 = .ok (.lload_n 3, 1) := by decide +kernel
theorem d1_12 : decode method_2_code 12 = .ok (.lreturn, 1) := by decide +kernel
theorem d1_13 : decode method_2_code 13 = .ok (.iload_n 0, 1) := by decide +kernel
theorem d1_14 : decode method_2_code 14 = .ok (.iconst 2, 1) := by decide +kernel
theorem d1_15 : decode method_2_code 15 = .ok (.if_icmp .ne 6, 3) := by decide +kernel
theorem d1_18 : decode method_2_code 18 = .ok (.lload 5, 2) := by decide +kernel
theorem d1_20 : decode method_2_code 20 = .ok (.lreturn, 1) := by decide +kernel
theorem d1_21 : decode method_2_code 21 = .ok (.lload_n 1, 1) := by decide +kernel
theorem d1_22 : decode method_2_code 22 = .ok (.ldc2_w 7, 3) := by decide +kernel
theorem d1_25 : decode method_2_code 25 = .ok (.lxor, 1) := by decide +kernel
theorem d1_26 : decode method_2_code 26 = .ok (.lreturn, 1) := by decide +kernel
theorem pf_1 : plainFor (⟨"com/example/orderly_ring/orderlyring/model/SequencesExtendBordersPinLaw", "label", "(IJJJ)J"⟩ : MethodName) = true := plainFor_of_name (by first | (simp [plainName, overriddenIn]; done) | decide +kernel)
theorem pd_1 : parseMethodDescriptor "(IJJJ)J" = some ⟨[.int, .long, .long, .long], some .long⟩ := by decide +kernel
def labF (k : Int32) (x y z : Int64) : Int64 := if k = 0 then x else if k = 1 then y else if k = 2 then z else x ^^^ (4294967296 : Int64)
set_option maxRecDepth 65536 in
set_option maxHeartbeats 40000000 in
theorem con_label (l : Launch) (Z : State) (a0 : Array Value) (hw : ∀ d ∈ tables_1, d.before a0 Z = true) (n0 : Nat) (h0 : Heap) (Z0 : n0 ≤ h0.size) (k : Int32) (x y z : Int64)  :
    Con l Z (⟨"com/example/orderly_ring/orderlyring/model/SequencesExtendBordersPinLaw", "label", "(IJJJ)J"⟩ : MethodName) method_2_code 7 (some .long) [] ({ frames := 0, cells := 0, slots := 0, locals := 0 } : Room) n0 #[(.int k), (.long x), (.long y), (.long z)] h0 (fun v h => v = some (.long (labF k x y z)) ∧ h = h0) := by
  refine Con.mk pf_1 hw Z0 ?_
  intro p e s m below meth c T0 C X0
  have ef : entryFrame m #[(.int k), (.long x), (.long y), (.long z)] 7 = mkF m 0 #[.val (.int k), .val (.long x), .second, .val (.long y), .second, .val (.long z), .second] [] := by first | (simp [entryFrame, mkF, argsToLocals, Value.category]; done) | rfl
  rw [ef]
  show Go p e below s n0 _ _ _ (T0.setTop (mkF m 0 #[.val (.int k), .val (.long x), .second, .val (.long y), .second, .val (.long z), .second] []))
  refine Go.st (fun _ => XS.iloadN X0.here C.hx rfl (hb C.hby d1_0) rfl) ?_
  show Go p e below s n0 _ _ _ (T0.setTop (mkF m 1 #[.val (.int k), .val (.long x), .second, .val (.long y), .second, .val (.long z), .second] [(.int k)]))
  refine Go.if_ne C X0 (pc' := 6) d1_1 (by decide) (by decide) (fun hc1_101 => ?_) (fun hc1_101 => ?_)
  · show Go p e below s n0 _ _ _ (T0.setTop (mkF m 6 #[.val (.int k), .val (.long x), .second, .val (.long y), .second, .val (.long z), .second] []))
    refine Go.st (fun _ => XS.iloadN X0.here C.hx rfl (hb C.hby d1_6) rfl) ?_
    show Go p e below s n0 _ _ _ (T0.setTop (mkF m 7 #[.val (.int k), .val (.long x), .second, .val (.long y), .second, .val (.long z), .second] [(.int k)]))
    refine Go.st (fun _ => XS.iconst X0.here C.hx rfl (hb C.hby d1_7)) ?_
    show Go p e below s n0 _ _ _ (T0.setTop (mkF m 8 #[.val (.int k), .val (.long x), .second, .val (.long y), .second, .val (.long z), .second] [(.int (1 : Int32)), (.int k)]))
    refine Go.icmp_ne C X0 (pc' := 13) d1_8 (by decide) (by decide) (fun hc8_102 => ?_) (fun hc8_102 => ?_)
    · show Go p e below s n0 _ _ _ (T0.setTop (mkF m 13 #[.val (.int k), .val (.long x), .second, .val (.long y), .second, .val (.long z), .second] []))
      refine Go.st (fun _ => XS.iloadN X0.here C.hx rfl (hb C.hby d1_13) rfl) ?_
      show Go p e below s n0 _ _ _ (T0.setTop (mkF m 14 #[.val (.int k), .val (.long x), .second, .val (.long y), .second, .val (.long z), .second] [(.int k)]))
      refine Go.st (fun _ => XS.iconst X0.here C.hx rfl (hb C.hby d1_14)) ?_
      show Go p e below s n0 _ _ _ (T0.setTop (mkF m 15 #[.val (.int k), .val (.long x), .second, .val (.long y), .second, .val (.long z), .second] [(.int (2 : Int32)), (.int k)]))
      refine Go.icmp_ne C X0 (pc' := 21) d1_15 (by decide) (by decide) (fun hc15_103 => ?_) (fun hc15_103 => ?_)
      · show Go p e below s n0 _ _ _ (T0.setTop (mkF m 21 #[.val (.int k), .val (.long x), .second, .val (.long y), .second, .val (.long z), .second] []))
        refine Go.st (fun _ => XS.lloadN X0.here C.hx rfl (hb C.hby d1_21) rfl) ?_
        show Go p e below s n0 _ _ _ (T0.setTop (mkF m 22 #[.val (.int k), .val (.long x), .second, .val (.long y), .second, .val (.long z), .second] [(.long x)]))
        refine Go.ldcJ C X0 (wd 16 rfl) d1_22 ?_
        show Go p e below s n0 _ _ _ (T0.setTop (mkF m 25 #[.val (.int k), .val (.long x), .second, .val (.long y), .second, .val (.long z), .second] [(.long (4294967296 : Int64)), (.long x)]))
        refine Go.st (fun _ => XS.lxor X0.here C.hx rfl (hb C.hby d1_25) rfl) ?_
        show Go p e below s n0 _ _ _ (T0.setTop (mkF m 26 #[.val (.int k), .val (.long x), .second, .val (.long y), .second, .val (.long z), .second] [(.long (x ^^^ (4294967296 : Int64)))]))
        exact Go.retJ C X0 d1_26 ⟨by simp [labF, hc1_101, hc8_102, hc15_103], rfl⟩ (by decide) (by decide)
      · show Go p e below s n0 _ _ _ (T0.setTop (mkF m 18 #[.val (.int k), .val (.long x), .second, .val (.long y), .second, .val (.long z), .second] []))
        refine Go.st (fun _ => XS.lload X0.here C.hx rfl (hb C.hby d1_18) rfl) ?_
        show Go p e below s n0 _ _ _ (T0.setTop (mkF m 20 #[.val (.int k), .val (.long x), .second, .val (.long y), .second, .val (.long z), .second] [(.long z)]))
        exact Go.retJ C X0 d1_20 ⟨by simp [labF, hc1_101, hc8_102, hc15_103], rfl⟩ (by decide) (by decide)
    · show Go p e below s n0 _ _ _ (T0.setTop (mkF m 11 #[.val (.int k), .val (.long x), .second, .val (.long y), .second, .val (.long z), .second] []))
      refine Go.st (fun _ => XS.lloadN X0.here C.hx rfl (hb C.hby d1_11) rfl) ?_
      show Go p e below s n0 _ _ _ (T0.setTop (mkF m 12 #[.val (.int k), .val (.long x), .second, .val (.long y), .second, .val (.long z), .second] [(.long y)]))
      exact Go.retJ C X0 d1_12 ⟨by simp [labF, hc1_101, hc8_102], rfl⟩ (by decide) (by decide)
  · show Go p e below s n0 _ _ _ (T0.setTop (mkF m 4 #[.val (.int k), .val (.long x), .second, .val (.long y), .second, .val (.long z), .second] []))
    refine Go.st (fun _ => XS.lloadN X0.here C.hx rfl (hb C.hby d1_4) rfl) ?_
    show Go p e below s n0 _ _ _ (T0.setTop (mkF m 5 #[.val (.int k), .val (.long x), .second, .val (.long y), .second, .val (.long z), .second] [(.long x)]))
    exact Go.retJ C X0 d1_5 ⟨by simp [labF, hc1_101], rfl⟩ (by decide) (by decide)
theorem d2_0 : decode prog_60_method_3_code 0 = .ok (.iconst 0, 1) := by decide +kernel
theorem d2_1 : decode prog_60_method_3_code 1 = .ok (.istore_n 3, 1) := by decide +kernel
theorem d2_2 : decode prog_60_method_3_code 2 = .ok (.iload_n 2, 1) := by decide +kernel
theorem d2_3 : decode prog_60_method_3_code 3 = .ok (.ifCond .le 45, 3) := by decide +kernel
theorem d2_6 : decode prog_60_method_3_code 6 = .ok (.aload_n 1, 1) := by decide +kernel
theorem d2_7 : decode prog_60_method_3_code 7 = .ok (.iload_n 2, 1) := by decide +kernel
theorem d2_8 : decode prog_60_method_3_code 8 = .ok (.iconst 1, 1) := by decide +kernel
theorem d2_9 : decode prog_60_method_3_code 9 = .ok (.isub, 1) := by decide +kernel
theorem d2_10 : decode prog_60_method_3_code 10 = .ok (.iaload, 1) := by decide +kernel
theorem d2_11 : decode prog_60_method_3_code 11 = .ok (.istore_n 3, 1) := by decide +kernel
theorem d2_12 : decode prog_60_method_3_code 12 = .ok (.iload_n 3, 1) := by decide +kernel
theorem d2_13 : decode prog_60_method_3_code 13 = .ok (.ifCond .le 22, 3) := by decide +kernel
theorem d2_16 : decode prog_60_method_3_code 16 = .ok (.aload_n 0, 1) := by decide +kernel
theorem d2_17 : decode prog_60_method_3_code 17 = .ok (.iload_n 2, 1) := by decide +kernel
theorem d2_18 : decode prog_60_method_3_code 18 = .ok (.laload, 1) := by decide +kernel
theorem d2_19 : decode prog_60_method_3_code 19 = .ok (.aload_n 0, 1) := by decide +kernel
theorem d2_20 : decode prog_60_method_3_code 20 = .ok (.iload_n 3, 1) := by decide +kernel
theorem d2_21 : decode prog_60_method_3_code 21 = .ok (.laload, 1) := by decide +kernel
theorem d2_22 : decode prog_60_method_3_code 22 = .ok (.lcmp, 1) := by decide +kernel
theorem d2_23 : decode prog_60_method_3_code 23 = .ok (.ifCond .eq 12, 3) := by decide +kernel
theorem d2_26 : decode prog_60_method_3_code 26 = .ok (.aload_n 1, 1) := by decide +kernel
theorem d2_27 : decode prog_60_method_3_code 27 = .ok (.iload_n 3, 1) := by decide +kernel
theorem d2_28 : decode prog_60_method_3_code 28 = .ok (.iconst 1, 1) := by decide +kernel
theorem d2_29 : decode prog_60_method_3_code 29 = .ok (.isub, 1) := by decide +kernel
theorem d2_30 : decode prog_60_method_3_code 30 = .ok (.iaload, 1) := by decide +kernel
theorem d2_31 : decode prog_60_method_3_code 31 = .ok (.istore_n 3, 1) := by decide +kernel
theorem d2_32 : decode prog_60_method_3_code 32 = .ok (.goto (-20), 3) := by decide +kernel
theorem d2_35 : decode prog_60_method_3_code 35 = .ok (.aload_n 0, 1) := by decide +kernel
theorem d2_36 : decode prog_60_method_3_code 36 = .ok (.iload_n 2, 1) := by decide +kernel
theorem d2_37 : decode prog_60_method_3_code 37 = .ok (.laload, 1) := by decide +kernel
theorem d2_38 : decode prog_60_method_3_code 38 = .ok (.aload_n 0, 1) := by decide +kernel
theorem d2_39 : decode prog_60_method_3_code 39 = .ok (.iload_n 3, 1) := by decide +kernel
theorem d2_40 : decode prog_60_method_3_code 40 = .ok (.laload, 1) := by decide +kernel
theorem d2_41 : decode prog_60_method_3_code 41 = .ok (.lcmp, 1) := by decide +kernel
theorem d2_42 : decode prog_60_method_3_code 42 = .ok (.ifCond .ne 6, 3) := by decide +kernel
theorem d2_45 : decode prog_60_method_3_code 45 = .ok (.iinc 3 1, 3) := by decide +kernel
theorem d2_48 : decode prog_60_method_3_code 48 = .ok (.aload_n 1, 1) := by decide +kernel
theorem d2_49 : decode prog_60_method_3_code 49 = .ok (.iload_n 2, 1) := by decide +kernel
theorem d2_50 : decode prog_60_method_3_code 50 = .ok (.iload_n 3, 1) := by decide +kernel
theorem d2_51 : decode prog_60_method_3_code 51 = .ok (.iastore, 1) := by decide +kernel
theorem d2_52 : decode prog_60_method_3_code 52 = .ok (.return_, 1) := by decide +kernel
theorem pf_2 : plainFor (⟨"com/example/orderly_ring/orderlyring/model/Sequences", "extendBorders", "([J[II)V"⟩ : MethodName) = true := plainFor_of_name (by first | (simp [plainName, overriddenIn]; done) | decide +kernel)
theorem pd_2 : parseMethodDescriptor "([J[II)V" = some ⟨[(.array .long), (.array .int), .int], none⟩ := by decide +kernel
set_option maxRecDepth 65536 in
set_option maxHeartbeats 40000000 in
theorem loop_ext {p : Program} {l : Launch} {e : Env} {R : Room} {s : State} {m : MethodId} {args : Array Value} {below : List Frame} {meth : Method} {c : Code} {Z : State} {a0 : Array Value} {n0 kc kn cells slots : Nat} {Q : Option Value → Heap → Prop} (C : Ctx p s m meth c Z a0 tables_1 "com/example/orderly_ring/orderlyring/model/Sequences" "extendBorders" prog_60_method_3_code 4 none) (a1 a2 : Addr) (ne12 : a1 ≠ a2) (g2 : n0 ≤ a2) (sl : List Int64) (hs : sl.length = 6) (B : List Nat) (hB : Inv B) (i : Nat) (hi : 0 < i) (hi6 : i < 6) (h : Heap) (A1 : AR Z h a1 .long (sl.map Value.long)) (A2 : AR Z h a2 .int (B.map fI)) (hkc : cells ≤ kc) (hkn : slots ≤ kn) (hQ : ∀ h, AR Z h a1 .long (sl.map Value.long) → AR Z h a2 .int ((stepE (Esl sl) B i).map fI) → Q none h) : ∀ (f k : Nat) (T : State), k ≤ f → k < i → fall (Esl sl) B i f k = fall (Esl sl) B i 6 (B.getD (i - 1) 0) → St p l e R s m args below meth c n0 T h cells slots →
    Go p e below s n0 kc kn Q (T.setTop (mkF m 12 #[.val (.ref a1), .val (.ref a2), .val (.int i.toInt32), .val (.int k.toInt32)] [])) := by
  have J35 : ∀ (T : State) (k : Nat), St p l e R s m args below meth c n0 T h cells slots → k < i → k = fall (Esl sl) B i 6 (B.getD (i - 1) 0) → Go p e below s n0 kc kn Q (T.setTop (mkF m 35 #[.val (.ref a1), .val (.ref a2), .val (.int i.toInt32), .val (.int k.toInt32)] [])) := by
    intro T k X hki hk
    have hst : stepE (Esl sl) B i = B.set i (if Esl sl i k = true then k + 1 else k) := by unfold stepE nxt; rw [if_neg (by omega), ← hk]
    show Go p e below s n0 _ _ _ (T.setTop (mkF m 35 #[.val (.ref a1), .val (.ref a2), .val (.int i.toInt32), .val (.int k.toInt32)] []))
    refine Go.st (fun _ => XS.aloadN X.here C.hx rfl (hb C.hby d2_35) rfl rfl) ?_
    show Go p e below s n0 _ _ _ (T.setTop (mkF m 36 #[.val (.ref a1), .val (.ref a2), .val (.int i.toInt32), .val (.int k.toInt32)] [(.ref a1)]))
    refine Go.st (fun _ => XS.iloadN X.here C.hx rfl (hb C.hby d2_36) rfl) ?_
    show Go p e below s n0 _ _ _ (T.setTop (mkF m 37 #[.val (.ref a1), .val (.ref a2), .val (.int i.toInt32), .val (.int k.toInt32)] [(.int i.toInt32), (.ref a1)]))
    refine Go.laload C X A1 (nn32 (by omega)) (getL hs (by omega)) d2_37 ?_
    show Go p e below s n0 _ _ _ (T.setTop (mkF m 38 #[.val (.ref a1), .val (.ref a2), .val (.int i.toInt32), .val (.int k.toInt32)] [(.long (el sl i))]))
    refine Go.st (fun _ => XS.aloadN X.here C.hx rfl (hb C.hby d2_38) rfl rfl) ?_
    show Go p e below s n0 _ _ _ (T.setTop (mkF m 39 #[.val (.ref a1), .val (.ref a2), .val (.int i.toInt32), .val (.int k.toInt32)] [(.ref a1), (.long (el sl i))]))
    refine Go.st (fun _ => XS.iloadN X.here C.hx rfl (hb C.hby d2_39) rfl) ?_
    show Go p e below s n0 _ _ _ (T.setTop (mkF m 40 #[.val (.ref a1), .val (.ref a2), .val (.int i.toInt32), .val (.int k.toInt32)] [(.int k.toInt32), (.ref a1), (.long (el sl i))]))
    refine Go.laload C X A1 (nn32 (by omega)) (getL hs (by omega)) d2_40 ?_
    show Go p e below s n0 _ _ _ (T.setTop (mkF m 41 #[.val (.ref a1), .val (.ref a2), .val (.int i.toInt32), .val (.int k.toInt32)] [(.long (el sl k)), (.long (el sl i))]))
    refine Go.st (fun _ => XS.lcmp X.here C.hx rfl (hb C.hby d2_41) rfl) ?_
    show Go p e below s n0 _ _ _ (T.setTop (mkF m 42 #[.val (.ref a1), .val (.ref a2), .val (.int i.toInt32), .val (.int k.toInt32)] [(.int (lcmpW (el sl i) (el sl k)))]))
    refine Go.lif_ne C X (pc' := 48) d2_42 (by decide) (by decide) (fun hc42_104 => ?_) (fun hc42_104 => ?_)
    · show Go p e below s n0 _ _ _ (T.setTop (mkF m 48 #[.val (.ref a1), .val (.ref a2), .val (.int i.toInt32), .val (.int k.toInt32)] []))
      refine Go.st (fun _ => XS.aloadN X.here C.hx rfl (hb C.hby d2_48) rfl rfl) ?_
      show Go p e below s n0 _ _ _ (T.setTop (mkF m 49 #[.val (.ref a1), .val (.ref a2), .val (.int i.toInt32), .val (.int k.toInt32)] [(.ref a2)]))
      refine Go.st (fun _ => XS.iloadN X.here C.hx rfl (hb C.hby d2_49) rfl) ?_
      show Go p e below s n0 _ _ _ (T.setTop (mkF m 50 #[.val (.ref a1), .val (.ref a2), .val (.int i.toInt32), .val (.int k.toInt32)] [(.int i.toInt32), (.ref a2)]))
      refine Go.st (fun _ => XS.iloadN X.here C.hx rfl (hb C.hby d2_50) rfl) ?_
      show Go p e below s n0 _ _ _ (T.setTop (mkF m 51 #[.val (.ref a1), .val (.ref a2), .val (.int i.toInt32), .val (.int k.toInt32)] [(.int k.toInt32), (.int i.toInt32), (.ref a2)]))
      refine Go.iastore C X A2 (nn32 (by omega)) (by rw [cl32 (by omega), List.length_map, hB.1]; omega) g2 d2_51 (fun T105 h105 X105 W105 A105 => ?_)
      show Go p e below s n0 _ _ _ (T105.setTop (mkF m 52 #[.val (.ref a1), .val (.ref a2), .val (.int i.toInt32), .val (.int k.toInt32)] []))
      exact Go.retV C X105 d2_52 (hQ _ (A1.other W105 ne12) (by rw [hst, if_neg (by rw [Ef hi6 (by omega) hc42_104]; decide), ← setM B hi6]; exact A105)) hkc hkn
    · show Go p e below s n0 _ _ _ (T.setTop (mkF m 45 #[.val (.ref a1), .val (.ref a2), .val (.int i.toInt32), .val (.int k.toInt32)] []))
      refine Go.st (fun _ => XS.iinc X.here C.hx rfl (hb C.hby d2_45) rfl (l' := #[.val (.ref a1), .val (.ref a2), .val (.int i.toInt32), .val (.int (k.toInt32 + (1 : Int32)))]) rfl) ?_
      show Go p e below s n0 _ _ _ (T.setTop (mkF m 48 #[.val (.ref a1), .val (.ref a2), .val (.int i.toInt32), .val (.int (k.toInt32 + (1 : Int32)))] []))
      refine Go.st (fun _ => XS.aloadN X.here C.hx rfl (hb C.hby d2_48) rfl rfl) ?_
      show Go p e below s n0 _ _ _ (T.setTop (mkF m 49 #[.val (.ref a1), .val (.ref a2), .val (.int i.toInt32), .val (.int (k.toInt32 + (1 : Int32)))] [(.ref a2)]))
      refine Go.st (fun _ => XS.iloadN X.here C.hx rfl (hb C.hby d2_49) rfl) ?_
      show Go p e below s n0 _ _ _ (T.setTop (mkF m 50 #[.val (.ref a1), .val (.ref a2), .val (.int i.toInt32), .val (.int (k.toInt32 + (1 : Int32)))] [(.int i.toInt32), (.ref a2)]))
      refine Go.st (fun _ => XS.iloadN X.here C.hx rfl (hb C.hby d2_50) rfl) ?_
      show Go p e below s n0 _ _ _ (T.setTop (mkF m 51 #[.val (.ref a1), .val (.ref a2), .val (.int i.toInt32), .val (.int (k.toInt32 + (1 : Int32)))] [(.int (k.toInt32 + (1 : Int32))), (.int i.toInt32), (.ref a2)]))
      refine Go.iastore C X A2 (nn32 (by omega)) (by rw [cl32 (by omega), List.length_map, hB.1]; omega) g2 d2_51 (fun T106 h106 X106 W106 A106 => ?_)
      show Go p e below s n0 _ _ _ (T106.setTop (mkF m 52 #[.val (.ref a1), .val (.ref a2), .val (.int i.toInt32), .val (.int (k.toInt32 + (1 : Int32)))] []))
      exact Go.retV C X106 d2_52 (hQ _ (A1.other W106 ne12) (by rw [hst, if_pos (Et hi6 (by omega) hc42_104), ← setM B hi6, ← inc32]; exact A106)) hkc hkn
  intro f
  induction f with
  | zero =>
    intro k T hf hki hr X
    obtain rfl : k = 0 := by omega
    show Go p e below s n0 _ _ _ (T.setTop (mkF m 12 #[.val (.ref a1), .val (.ref a2), .val (.int i.toInt32), .val (.int (0 : Nat).toInt32)] []))
    refine Go.st (fun _ => XS.iloadN X.here C.hx rfl (hb C.hby d2_12) rfl) ?_
    show Go p e below s n0 _ _ _ (T.setTop (mkF m 13 #[.val (.ref a1), .val (.ref a2), .val (.int i.toInt32), .val (.int (0 : Nat).toInt32)] [(.int (0 : Nat).toInt32)]))
    refine Go.if_le C X (pc' := 35) d2_13 (by decide) (by decide) (fun _ => ?_) (fun hc => by first | exact absurd hc (show ¬ (0 : Int32) < (0 : Nat).toInt32 from by decide) | exact absurd (show ¬ (0 : Int32) < (0 : Nat).toInt32 from by decide) hc)
    show Go p e below s n0 _ _ _ (T.setTop (mkF m 35 #[.val (.ref a1), .val (.ref a2), .val (.int i.toInt32), .val (.int (0 : Nat).toInt32)] []))
    exact J35 T 0 X hki hr
  | succ f ih =>
    intro k T hf hki hr X
    unfold fall at hr
    show Go p e below s n0 _ _ _ (T.setTop (mkF m 12 #[.val (.ref a1), .val (.ref a2), .val (.int i.toInt32), .val (.int k.toInt32)] []))
    refine Go.st (fun _ => XS.iloadN X.here C.hx rfl (hb C.hby d2_12) rfl) ?_
    show Go p e below s n0 _ _ _ (T.setTop (mkF m 13 #[.val (.ref a1), .val (.ref a2), .val (.int i.toInt32), .val (.int k.toInt32)] [(.int k.toInt32)]))
    refine Go.if_le C X (pc' := 35) d2_13 (by decide) (by decide) (fun hc13_108 => ?_) (fun hc13_108 => ?_)
    · show Go p e below s n0 _ _ _ (T.setTop (mkF m 35 #[.val (.ref a1), .val (.ref a2), .val (.int i.toInt32), .val (.int k.toInt32)] []))
      have hk0 : ¬ 0 < k := fun q => hc13_108 ((pos32 (by omega)).mpr q)
      exact J35 T k X hki (by rw [if_neg (fun q => hk0 q.1)] at hr; exact hr)
    · have hk0 : 0 < k := (pos32 (by omega)).mp hc13_108
      show Go p e below s n0 _ _ _ (T.setTop (mkF m 16 #[.val (.ref a1), .val (.ref a2), .val (.int i.toInt32), .val (.int k.toInt32)] []))
      refine Go.st (fun _ => XS.aloadN X.here C.hx rfl (hb C.hby d2_16) rfl rfl) ?_
      show Go p e below s n0 _ _ _ (T.setTop (mkF m 17 #[.val (.ref a1), .val (.ref a2), .val (.int i.toInt32), .val (.int k.toInt32)] [(.ref a1)]))
      refine Go.st (fun _ => XS.iloadN X.here C.hx rfl (hb C.hby d2_17) rfl) ?_
      show Go p e below s n0 _ _ _ (T.setTop (mkF m 18 #[.val (.ref a1), .val (.ref a2), .val (.int i.toInt32), .val (.int k.toInt32)] [(.int i.toInt32), (.ref a1)]))
      refine Go.laload C X A1 (nn32 (by omega)) (getL hs (by omega)) d2_18 ?_
      show Go p e below s n0 _ _ _ (T.setTop (mkF m 19 #[.val (.ref a1), .val (.ref a2), .val (.int i.toInt32), .val (.int k.toInt32)] [(.long (el sl i))]))
      refine Go.st (fun _ => XS.aloadN X.here C.hx rfl (hb C.hby d2_19) rfl rfl) ?_
      show Go p e below s n0 _ _ _ (T.setTop (mkF m 20 #[.val (.ref a1), .val (.ref a2), .val (.int i.toInt32), .val (.int k.toInt32)] [(.ref a1), (.long (el sl i))]))
      refine Go.st (fun _ => XS.iloadN X.here C.hx rfl (hb C.hby d2_20) rfl) ?_
      show Go p e below s n0 _ _ _ (T.setTop (mkF m 21 #[.val (.ref a1), .val (.ref a2), .val (.int i.toInt32), .val (.int k.toInt32)] [(.int k.toInt32), (.ref a1), (.long (el sl i))]))
      refine Go.laload C X A1 (nn32 (by omega)) (getL hs (by omega)) d2_21 ?_
      show Go p e below s n0 _ _ _ (T.setTop (mkF m 22 #[.val (.ref a1), .val (.ref a2), .val (.int i.toInt32), .val (.int k.toInt32)] [(.long (el sl k)), (.long (el sl i))]))
      refine Go.st (fun _ => XS.lcmp X.here C.hx rfl (hb C.hby d2_22) rfl) ?_
      show Go p e below s n0 _ _ _ (T.setTop (mkF m 23 #[.val (.ref a1), .val (.ref a2), .val (.int i.toInt32), .val (.int k.toInt32)] [(.int (lcmpW (el sl i) (el sl k)))]))
      refine Go.lif_eq C X (pc' := 35) d2_23 (by decide) (by decide) (fun hc23_109 => ?_) (fun hc23_109 => ?_)
      · show Go p e below s n0 _ _ _ (T.setTop (mkF m 35 #[.val (.ref a1), .val (.ref a2), .val (.int i.toInt32), .val (.int k.toInt32)] []))
        exact J35 T k X hki (by rw [if_neg (fun q => by have u := q.2; rw [Et hi6 (by omega) hc23_109] at u; cases u)] at hr; exact hr)
      · show Go p e below s n0 _ _ _ (T.setTop (mkF m 26 #[.val (.ref a1), .val (.ref a2), .val (.int i.toInt32), .val (.int k.toInt32)] []))
        refine Go.st (fun _ => XS.aloadN X.here C.hx rfl (hb C.hby d2_26) rfl rfl) ?_
        show Go p e below s n0 _ _ _ (T.setTop (mkF m 27 #[.val (.ref a1), .val (.ref a2), .val (.int i.toInt32), .val (.int k.toInt32)] [(.ref a2)]))
        refine Go.st (fun _ => XS.iloadN X.here C.hx rfl (hb C.hby d2_27) rfl) ?_
        show Go p e below s n0 _ _ _ (T.setTop (mkF m 28 #[.val (.ref a1), .val (.ref a2), .val (.int i.toInt32), .val (.int k.toInt32)] [(.int k.toInt32), (.ref a2)]))
        refine Go.st (fun _ => XS.iconst X.here C.hx rfl (hb C.hby d2_28)) ?_
        show Go p e below s n0 _ _ _ (T.setTop (mkF m 29 #[.val (.ref a1), .val (.ref a2), .val (.int i.toInt32), .val (.int k.toInt32)] [(.int (1 : Int32)), (.int k.toInt32), (.ref a2)]))
        refine Go.st (fun _ => XS.isub X.here C.hx rfl (hb C.hby d2_29) rfl) ?_
        show Go p e below s n0 _ _ _ (T.setTop (mkF m 30 #[.val (.ref a1), .val (.ref a2), .val (.int i.toInt32), .val (.int k.toInt32)] [(.int (k.toInt32 - (1 : Int32))), (.ref a2)]))
        refine Go.iaload C X A2 (by rw [dec32 hk0]; exact nn32 (by omega)) (by rw [dec32 hk0]; exact getB hB.1 (by omega)) d2_30 ?_
        show Go p e below s n0 _ _ _ (T.setTop (mkF m 31 #[.val (.ref a1), .val (.ref a2), .val (.int i.toInt32), .val (.int k.toInt32)] [(.int (B.getD (k - 1) 0).toInt32)]))
        refine Go.st (fun _ => XS.istoreN X.here C.hx rfl (hb C.hby d2_31) rfl (l' := #[.val (.ref a1), .val (.ref a2), .val (.int i.toInt32), .val (.int (B.getD (k - 1) 0).toInt32)]) rfl) ?_
        show Go p e below s n0 _ _ _ (T.setTop (mkF m 32 #[.val (.ref a1), .val (.ref a2), .val (.int i.toInt32), .val (.int (B.getD (k - 1) 0).toInt32)] []))
        refine Go.st (fun _ => XS.goto X.here C.hx rfl (pc0 := 32) (pc' := 12) rfl (hb C.hby d2_32) (by decide) (by decide)) ?_
        show Go p e below s n0 _ _ _ (T.setTop (mkF m 12 #[.val (.ref a1), .val (.ref a2), .val (.int i.toInt32), .val (.int (B.getD (k - 1) 0).toInt32)] []))
        have hB1 := hB.2 (k - 1)
        exact ih (B.getD (k - 1) 0) T (by omega) (by omega) (by rw [if_pos ⟨hk0, Ef hi6 (by omega) hc23_109⟩] at hr; exact hr) X
set_option maxRecDepth 65536 in
set_option maxHeartbeats 40000000 in
theorem con_ext (l : Launch) (Z : State) (a0 : Array Value) (hw : ∀ d ∈ tables_1, d.before a0 Z = true) (n0 : Nat) (h0 : Heap) (Z0 : n0 ≤ h0.size) (a1 a2 : Addr) (iz : Int32) (i : Nat) (sl : List Int64) (B : List Nat) (hiz : iz = i.toInt32) (ne12 : a1 ≠ a2) (g2 : n0 ≤ a2) (hs : sl.length = 6) (hB : Inv B) (hi6 : i < 6) (A1 : AR Z h0 a1 .long (sl.map Value.long)) (A2 : AR Z h0 a2 .int (B.map fI)) :
    Con l Z (⟨"com/example/orderly_ring/orderlyring/model/Sequences", "extendBorders", "([J[II)V"⟩ : MethodName) prog_60_method_3_code 4 none [] ({ frames := 0, cells := 0, slots := 0, locals := 0 } : Room) n0 #[(.ref a1), (.ref a2), (.int iz)] h0 (fun v h => v = none ∧ AR Z h a1 .long (sl.map Value.long) ∧ AR Z h a2 .int ((stepE (Esl sl) B i).map fI)) := by
  refine Con.mk pf_2 hw Z0 ?_
  intro p e s m below meth c T0 C X0
  have ef : entryFrame m #[(.ref a1), (.ref a2), (.int iz)] 4 = mkF m 0 #[.val (.ref a1), .val (.ref a2), .val (.int iz), .unset] [] := by first | (simp [entryFrame, mkF, argsToLocals, Value.category]; done) | rfl
  rw [ef]
  subst hiz
  show Go p e below s n0 _ _ _ (T0.setTop (mkF m 0 #[.val (.ref a1), .val (.ref a2), .val (.int i.toInt32), .unset] []))
  refine Go.st (fun _ => XS.iconst X0.here C.hx rfl (hb C.hby d2_0)) ?_
  show Go p e below s n0 _ _ _ (T0.setTop (mkF m 1 #[.val (.ref a1), .val (.ref a2), .val (.int i.toInt32), .unset] [(.int (0 : Int32))]))
  refine Go.st (fun _ => XS.istoreN X0.here C.hx rfl (hb C.hby d2_1) rfl (l' := #[.val (.ref a1), .val (.ref a2), .val (.int i.toInt32), .val (.int (0 : Int32))]) rfl) ?_
  show Go p e below s n0 _ _ _ (T0.setTop (mkF m 2 #[.val (.ref a1), .val (.ref a2), .val (.int i.toInt32), .val (.int (0 : Int32))] []))
  refine Go.st (fun _ => XS.iloadN X0.here C.hx rfl (hb C.hby d2_2) rfl) ?_
  show Go p e below s n0 _ _ _ (T0.setTop (mkF m 3 #[.val (.ref a1), .val (.ref a2), .val (.int i.toInt32), .val (.int (0 : Int32))] [(.int i.toInt32)]))
  refine Go.if_le C X0 (pc' := 48) d2_3 (by decide) (by decide) (fun hc3_110 => ?_) (fun hc3_110 => ?_)
  · show Go p e below s n0 _ _ _ (T0.setTop (mkF m 48 #[.val (.ref a1), .val (.ref a2), .val (.int i.toInt32), .val (.int (0 : Int32))] []))
    refine Go.st (fun _ => XS.aloadN X0.here C.hx rfl (hb C.hby d2_48) rfl rfl) ?_
    show Go p e below s n0 _ _ _ (T0.setTop (mkF m 49 #[.val (.ref a1), .val (.ref a2), .val (.int i.toInt32), .val (.int (0 : Int32))] [(.ref a2)]))
    refine Go.st (fun _ => XS.iloadN X0.here C.hx rfl (hb C.hby d2_49) rfl) ?_
    show Go p e below s n0 _ _ _ (T0.setTop (mkF m 50 #[.val (.ref a1), .val (.ref a2), .val (.int i.toInt32), .val (.int (0 : Int32))] [(.int i.toInt32), (.ref a2)]))
    refine Go.st (fun _ => XS.iloadN X0.here C.hx rfl (hb C.hby d2_50) rfl) ?_
    show Go p e below s n0 _ _ _ (T0.setTop (mkF m 51 #[.val (.ref a1), .val (.ref a2), .val (.int i.toInt32), .val (.int (0 : Int32))] [(.int (0 : Int32)), (.int i.toInt32), (.ref a2)]))
    refine Go.iastore C X0 A2 (nn32 (by omega)) (by rw [cl32 (by omega), List.length_map, hB.1]; omega) g2 d2_51 (fun T111 h111 X111 W111 A111 => ?_)
    show Go p e below s n0 _ _ _ (T111.setTop (mkF m 52 #[.val (.ref a1), .val (.ref a2), .val (.int i.toInt32), .val (.int (0 : Int32))] []))
    exact Go.retV C X111 d2_52 ⟨rfl, (A1.other W111 ne12), (by have e : ¬ 0 < i := fun q => hc3_110 ((pos32 (by omega)).mpr q); have e2 : nxt (Esl sl) B i = 0 := (by unfold nxt; rw [if_pos (by omega)]); unfold stepE; rw [e2, ← setM B hi6]; exact A111)⟩ (by decide) (by decide)
  · have hi : 0 < i := (pos32 (by omega)).mp hc3_110
    show Go p e below s n0 _ _ _ (T0.setTop (mkF m 6 #[.val (.ref a1), .val (.ref a2), .val (.int i.toInt32), .val (.int (0 : Int32))] []))
    refine Go.st (fun _ => XS.aloadN X0.here C.hx rfl (hb C.hby d2_6) rfl rfl) ?_
    show Go p e below s n0 _ _ _ (T0.setTop (mkF m 7 #[.val (.ref a1), .val (.ref a2), .val (.int i.toInt32), .val (.int (0 : Int32))] [(.ref a2)]))
    refine Go.st (fun _ => XS.iloadN X0.here C.hx rfl (hb C.hby d2_7) rfl) ?_
    show Go p e below s n0 _ _ _ (T0.setTop (mkF m 8 #[.val (.ref a1), .val (.ref a2), .val (.int i.toInt32), .val (.int (0 : Int32))] [(.int i.toInt32), (.ref a2)]))
    refine Go.st (fun _ => XS.iconst X0.here C.hx rfl (hb C.hby d2_8)) ?_
    show Go p e below s n0 _ _ _ (T0.setTop (mkF m 9 #[.val (.ref a1), .val (.ref a2), .val (.int i.toInt32), .val (.int (0 : Int32))] [(.int (1 : Int32)), (.int i.toInt32), (.ref a2)]))
    refine Go.st (fun _ => XS.isub X0.here C.hx rfl (hb C.hby d2_9) rfl) ?_
    show Go p e below s n0 _ _ _ (T0.setTop (mkF m 10 #[.val (.ref a1), .val (.ref a2), .val (.int i.toInt32), .val (.int (0 : Int32))] [(.int (i.toInt32 - (1 : Int32))), (.ref a2)]))
    refine Go.iaload C X0 A2 (by rw [dec32 (by omega)]; exact nn32 (by omega)) (by rw [dec32 (by omega)]; exact getB hB.1 (by omega)) d2_10 ?_
    show Go p e below s n0 _ _ _ (T0.setTop (mkF m 11 #[.val (.ref a1), .val (.ref a2), .val (.int i.toInt32), .val (.int (0 : Int32))] [(.int (B.getD (i - 1) 0).toInt32)]))
    refine Go.st (fun _ => XS.istoreN X0.here C.hx rfl (hb C.hby d2_11) rfl (l' := #[.val (.ref a1), .val (.ref a2), .val (.int i.toInt32), .val (.int (B.getD (i - 1) 0).toInt32)]) rfl) ?_
    show Go p e below s n0 _ _ _ (T0.setTop (mkF m 12 #[.val (.ref a1), .val (.ref a2), .val (.int i.toInt32), .val (.int (B.getD (i - 1) 0).toInt32)] []))
    have hB1 := hB.2 (i - 1)
    exact loop_ext C a1 a2 ne12 g2 sl hs B hB i hi hi6 _ A1 A2 (by decide) (by decide) (fun h q1 q2 => ⟨rfl, q1, q2⟩) 6 (B.getD (i - 1) 0) T0 (by omega) (by omega) rfl X0
theorem d4_0 : decode method_3_code 0 = .ok (.iload_n 1, 1) := by decide +kernel
theorem d4_1 : decode method_3_code 1 = .ok (.iload_n 2, 1) := by decide +kernel
theorem d4_2 : decode method_3_code 2 = .ok (.isub, 1) := by decide +kernel
theorem d4_3 : decode method_3_code 3 = .ok (.istore_n 3, 1) := by decide +kernel
theorem d4_4 : decode method_3_code 4 = .ok (.iconst 1, 1) := by decide +kernel
theorem d4_5 : decode method_3_code 5 = .ok (.istore 4, 2) := by decide +kernel
theorem d4_7 : decode method_3_code 7 = .ok (.iload_n 2, 1) := by decide +kernel
theorem d4_8 : decode method_3_code 8 = .ok (.ifCond .le 25, 3) := by decide +kernel
theorem d4_11 : decode method_3_code 11 = .ok (.iload 4, 2) := by decide +kernel
theorem d4_13 : decode method_3_code 13 = .ok (.ifCond .eq 17, 3) := by decide +kernel
theorem d4_16 : decode method_3_code 16 = .ok (.aload_n 0, 1) := by decide +kernel
theorem d4_17 : decode method_3_code 17 = .ok (.iconst 0, 1) := by decide +kernel
theorem d4_18 : decode method_3_code 18 = .ok (.laload, 1) := by decide +kernel
theorem d4_19 : decode method_3_code 19 = .ok (.aload_n 0, 1) := by decide +kernel
theorem d4_20 : decode method_3_code 20 = .ok (.iload_n 3, 1) := by decide +kernel
theorem d4_21 : decode method_3_code 21 = .ok (.laload, 1) := by decide +kernel
theorem d4_22 : decode method_3_code 22 = .ok (.lcmp, 1) := by decide +kernel
theorem d4_23 : decode method_3_code 23 = .ok (.ifCond .ne 7, 3) := by decide +kernel
theorem d4_26 : decode method_3_code 26 = .ok (.iconst 1, 1) := by decide +kernel
theorem d4_27 : decode method_3_code 27 = .ok (.goto 4, 3) := by decide +kernel
theorem d4_30 : decode method_3_code 30 = .ok (.iconst 0, 1) := by decide +kernel
theorem d4_31 : decode method_3_code 31 = .ok (.istore 4, 2) := by decide +kernel
theorem d4_33 : decode method_3_code 33 = .ok (.iload_n 2, 1) := by decide +kernel
theorem d4_34 : decode method_3_code 34 = .ok (.iconst 1, 1) := by decide +kernel
theorem d4_35 : decode method_3_code 35 = .ok (.if_icmp .le 27, 3) := by decide +kernel
theorem d4_38 : decode method_3_code 38 = .ok (.iload 4, 2) := by decide +kernel
theorem d4_40 : decode method_3_code 40 = .ok (.ifCond .eq 19, 3) := by decide +kernel
theorem d4_43 : decode method_3_code 43 = .ok (.aload_n 0, 1) := by decide +kernel
theorem d4_44 : decode method_3_code 44 = .ok (.iconst 1, 1) := by decide +kernel
theorem d4_45 : decode method_3_code 45 = .ok (.laload, 1) := by decide +kernel
theorem d4_46 : decode method_3_code 46 = .ok (.aload_n 0, 1) := by decide +kernel
theorem d4_47 : decode method_3_code 47 = .ok (.iload_n 3, 1) := by decide +kernel
theorem d4_48 : decode method_3_code 48 = .ok (.iconst 1, 1) := by decide +kernel
theorem d4_49 : decode method_3_code 49 = .ok (.iadd, 1) := by decide +kernel
theorem d4_50 : decode method_3_code 50 = .ok (.laload, 1) := by decide +kernel
theorem d4_51 : decode method_3_code 51 = .ok (.lcmp, 1) := by decide +kernel
theorem d4_52 : decode method_3_code 52 = .ok (.ifCond .ne 7, 3) := by decide +kernel
theorem d4_55 : decode method_3_code 55 = .ok (.iconst 1, 1) := by decide +kernel
theorem d4_56 : decode method_3_code 56 = .ok (.goto 4, 3) := by decide +kernel
theorem d4_59 : decode method_3_code 59 = .ok (.iconst 0, 1) := by decide +kernel
theorem d4_60 : decode method_3_code 60 = .ok (.istore 4, 2) := by decide +kernel
theorem d4_62 : decode method_3_code 62 = .ok (.iload_n 2, 1) := by decide +kernel
theorem d4_63 : decode method_3_code 63 = .ok (.iconst 2, 1) := by decide +kernel
theorem d4_64 : decode method_3_code 64 = .ok (.if_icmp .le 27, 3) := by decide +kernel
theorem d4_67 : decode method_3_code 67 = .ok (.iload 4, 2) := by decide +kernel
theorem d4_69 : decode method_3_code 69 = .ok (.ifCond .eq 19, 3) := by decide +kernel
theorem d4_72 : decode method_3_code 72 = .ok (.aload_n 0, 1) := by decide +kernel
theorem d4_73 : decode method_3_code 73 = .ok (.iconst 2, 1) := by decide +kernel
theorem d4_74 : decode method_3_code 74 = .ok (.laload, 1) := by decide +kernel
theorem d4_75 : decode method_3_code 75 = .ok (.aload_n 0, 1) := by decide +kernel
theorem d4_76 : decode method_3_code 76 = .ok (.iload_n 3, 1) := by decide +kernel
theorem d4_77 : decode method_3_code 77 = .ok (.iconst 2, 1) := by decide +kernel
theorem d4_78 : decode method_3_code 78 = .ok (.iadd, 1) := by decide +kernel
theorem d4_79 : decode method_3_code 79 = .ok (.laload, 1) := by decide +kernel
theorem d4_80 : decode method_3_code 80 = .ok (.lcmp, 1) := by decide +kernel
theorem d4_81 : decode method_3_code 81 = .ok (.ifCond .ne 7, 3) := by decide +kernel
theorem d4_84 : decode method_3_code 84 = .ok (.iconst 1, 1) := by decide +kernel
theorem d4_85 : decode method_3_code 85 = .ok (.goto 4, 3) := by decide +kernel
theorem d4_88 : decode method_3_code 88 = .ok (.iconst 0, 1) := by decide +kernel
theorem d4_89 : decode method_3_code 89 = .ok (.istore 4, 2) := by decide +kernel
theorem d4_91 : decode method_3_code 91 = .ok (.iload_n 2, 1) := by decide +kernel
theorem d4_92 : decode method_3_code 92 = .ok (.iconst 3, 1) := by decide +kernel
theorem d4_93 : decode method_3_code 93 = .ok (.if_icmp .le 27, 3) := by decide +kernel
theorem d4_96 : decode method_3_code 96 = .ok (.iload 4, 2) := by decide +kernel
theorem d4_98 : decode method_3_code 98 = .ok (.ifCond .eq 19, 3) := by decide +kernel
theorem d4_101 : decode method_3_code 101 = .ok (.aload_n 0, 1) := by decide +kernel
theorem d4_102 : decode method_3_code 102 = .ok (.iconst 3, 1) := by decide +kernel
theorem d4_103 : decode method_3_code 103 = .ok (.laload, 1) := by decide +kernel
theorem d4_104 : decode method_3_code 104 = .ok (.aload_n 0, 1) := by decide +kernel
theorem d4_105 : decode method_3_code 105 = .ok (.iload_n 3, 1) := by decide +kernel
theorem d4_106 : decode method_3_code 106 = .ok (.iconst 3, 1) := by decide +kernel
theorem d4_107 : decode method_3_code 107 = .ok (.iadd, 1) := by decide +kernel
theorem d4_108 : decode method_3_code 108 = .ok (.laload, 1) := by decide +kernel
theorem d4_109 : decode method_3_code 109 = .ok (.lcmp, 1) := by decide +kernel
theorem d4_110 : decode method_3_code 110 = .ok (.ifCond .ne 7, 3) := by decide +kernel
theorem d4_113 : decode method_3_code 113 = .ok (.iconst 1, 1) := by decide +kernel
theorem d4_114 : decode method_3_code 114 = .ok (.goto 4, 3) := by decide +kernel
theorem d4_117 : decode method_3_code 117 = .ok (.iconst 0, 1) := by decide +kernel
theorem d4_118 : decode method_3_code 118 = .ok (.istore 4, 2) := by decide +kernel
theorem d4_120 : decode method_3_code 120 = .ok (.iload_n 2, 1) := by decide +kernel
theorem d4_121 : decode method_3_code 121 = .ok (.iconst 4, 1) := by decide +kernel
theorem d4_122 : decode method_3_code 122 = .ok (.if_icmp .le 27, 3) := by decide +kernel
theorem d4_125 : decode method_3_code 125 = .ok (.iload 4, 2) := by decide +kernel
theorem d4_127 : decode method_3_code 127 = .ok (.ifCond .eq 19, 3) := by decide +kernel
theorem d4_130 : decode method_3_code 130 = .ok (.aload_n 0, 1) := by decide +kernel
theorem d4_131 : decode method_3_code 131 = .ok (.iconst 4, 1) := by decide +kernel
theorem d4_132 : decode method_3_code 132 = .ok (.laload, 1) := by decide +kernel
theorem d4_133 : decode method_3_code 133 = .ok (.aload_n 0, 1) := by decide +kernel
theorem d4_134 : decode method_3_code 134 = .ok (.iload_n 3, 1) := by decide +kernel
theorem d4_135 : decode method_3_code 135 = .ok (.iconst 4, 1) := by decide +kernel
theorem d4_136 : decode method_3_code 136 = .ok (.iadd, 1) := by decide +kernel
theorem d4_137 : decode method_3_code 137 = .ok (.laload, 1) := by decide +kernel
theorem d4_138 : decode method_3_code 138 = .ok (.lcmp, 1) := by decide +kernel
theorem d4_139 : decode method_3_code 139 = .ok (.ifCond .ne 7, 3) := by decide +kernel
theorem d4_142 : decode method_3_code 142 = .ok (.iconst 1, 1) := by decide +kernel
theorem d4_143 : decode method_3_code 143 = .ok (.goto 4, 3) := by decide +kernel
theorem d4_146 : decode method_3_code 146 = .ok (.iconst 0, 1) := by decide +kernel
theorem d4_147 : decode method_3_code 147 = .ok (.istore 4, 2) := by decide +kernel
theorem d4_149 : decode method_3_code 149 = .ok (.iload 4, 2) := by decide +kernel
theorem d4_151 : decode method_3_code 151 = .ok (.ireturn, 1) := by decide +kernel
theorem pf_4 : plainFor (⟨"com/example/orderly_ring/orderlyring/model/SequencesExtendBordersPinLaw", "same", "([JII)Z"⟩ : MethodName) = true := plainFor_of_name (by first | (simp [plainName, overriddenIn]; done) | decide +kernel)
theorem pd_4 : parseMethodDescriptor "([JII)Z" = some ⟨[(.array .long), .int, .int], some .boolean⟩ := by decide +kernel
set_option maxRecDepth 65536 in
set_option maxHeartbeats 40000000 in
theorem con_same_2_1 (l : Launch) (Z : State) (a0 : Array Value) (hw : ∀ d ∈ tables_1, d.before a0 Z = true) (n0 : Nat) (h0 : Heap) (Z0 : n0 ≤ h0.size) (a1 : Addr) (sl : List Int64) (hs : sl.length = 6) (A1 : AR Z h0 a1 .long (sl.map Value.long)) :
    Con l Z (⟨"com/example/orderly_ring/orderlyring/model/SequencesExtendBordersPinLaw", "same", "([JII)Z"⟩ : MethodName) method_3_code 5 (some .boolean) [] ({ frames := 0, cells := 0, slots := 0, locals := 0 } : Room) n0 #[(.ref a1), (.int (2 : Int32)), (.int (1 : Int32))] h0 (fun v h => v = some (.int (b2i (sameE (Esl sl) 2 1))) ∧ h = h0) := by
  refine Con.mk pf_4 hw Z0 ?_
  intro p e s m below meth c T0 C X0
  have ef : entryFrame m #[(.ref a1), (.int (2 : Int32)), (.int (1 : Int32))] 5 = mkF m 0 #[.val (.ref a1), .val (.int (2 : Int32)), .val (.int (1 : Int32)), .unset, .unset] [] := by first | (simp [entryFrame, mkF, argsToLocals, Value.category]; done) | rfl
  rw [ef]
  show Go p e below s n0 _ _ _ (T0.setTop (mkF m 0 #[.val (.ref a1), .val (.int (2 : Int32)), .val (.int (1 : Int32)), .unset, .unset] []))
  refine Go.st (fun _ => XS.iloadN X0.here C.hx rfl (hb C.hby d4_0) rfl) ?_
  show Go p e below s n0 _ _ _ (T0.setTop (mkF m 1 #[.val (.ref a1), .val (.int (2 : Int32)), .val (.int (1 : Int32)), .unset, .unset] [(.int (2 : Int32))]))
  refine Go.st (fun _ => XS.iloadN X0.here C.hx rfl (hb C.hby d4_1) rfl) ?_
  show Go p e below s n0 _ _ _ (T0.setTop (mkF m 2 #[.val (.ref a1), .val (.int (2 : Int32)), .val (.int (1 : Int32)), .unset, .unset] [(.int (1 : Int32)), (.int (2 : Int32))]))
  refine Go.st (fun _ => XS.isub X0.here C.hx rfl (hb C.hby d4_2) rfl) ?_
  show Go p e below s n0 _ _ _ (T0.setTop (mkF m 3 #[.val (.ref a1), .val (.int (2 : Int32)), .val (.int (1 : Int32)), .unset, .unset] [(.int (1 : Int32))]))
  refine Go.st (fun _ => XS.istoreN X0.here C.hx rfl (hb C.hby d4_3) rfl (l' := #[.val (.ref a1), .val (.int (2 : Int32)), .val (.int (1 : Int32)), .val (.int (1 : Int32)), .unset]) rfl) ?_
  show Go p e below s n0 _ _ _ (T0.setTop (mkF m 4 #[.val (.ref a1), .val (.int (2 : Int32)), .val (.int (1 : Int32)), .val (.int (1 : Int32)), .unset] []))
  refine Go.st (fun _ => XS.iconst X0.here C.hx rfl (hb C.hby d4_4)) ?_
  show Go p e below s n0 _ _ _ (T0.setTop (mkF m 5 #[.val (.ref a1), .val (.int (2 : Int32)), .val (.int (1 : Int32)), .val (.int (1 : Int32)), .unset] [(.int (1 : Int32))]))
  refine Go.st (fun _ => XS.istore X0.here C.hx rfl (hb C.hby d4_5) rfl (l' := #[.val (.ref a1), .val (.int (2 : Int32)), .val (.int (1 : Int32)), .val (.int (1 : Int32)), .val (.int (1 : Int32))]) rfl) ?_
  show Go p e below s n0 _ _ _ (T0.setTop (mkF m 7 #[.val (.ref a1), .val (.int (2 : Int32)), .val (.int (1 : Int32)), .val (.int (1 : Int32)), .val (.int (1 : Int32))] []))
  refine Go.st (fun _ => XS.iloadN X0.here C.hx rfl (hb C.hby d4_7) rfl) ?_
  show Go p e below s n0 _ _ _ (T0.setTop (mkF m 8 #[.val (.ref a1), .val (.int (2 : Int32)), .val (.int (1 : Int32)), .val (.int (1 : Int32)), .val (.int (1 : Int32))] [(.int (1 : Int32))]))
  refine Go.if_le C X0 (pc' := 33) d4_8 (by decide) (by decide) (fun hc => absurd hc (by decide)) (fun _ => ?_)
  show Go p e below s n0 _ _ _ (T0.setTop (mkF m 11 #[.val (.ref a1), .val (.int (2 : Int32)), .val (.int (1 : Int32)), .val (.int (1 : Int32)), .val (.int (1 : Int32))] []))
  refine Go.st (fun _ => XS.iload X0.here C.hx rfl (hb C.hby d4_11) rfl) ?_
  show Go p e below s n0 _ _ _ (T0.setTop (mkF m 13 #[.val (.ref a1), .val (.int (2 : Int32)), .val (.int (1 : Int32)), .val (.int (1 : Int32)), .val (.int (1 : Int32))] [(.int (1 : Int32))]))
  refine Go.if_eq C X0 (pc' := 30) d4_13 (by decide) (by decide) (fun hc => absurd hc (by decide)) (fun _ => ?_)
  show Go p e below s n0 _ _ _ (T0.setTop (mkF m 16 #[.val (.ref a1), .val (.int (2 : Int32)), .val (.int (1 : Int32)), .val (.int (1 : Int32)), .val (.int (1 : Int32))] []))
  refine Go.st (fun _ => XS.aloadN X0.here C.hx rfl (hb C.hby d4_16) rfl rfl) ?_
  show Go p e below s n0 _ _ _ (T0.setTop (mkF m 17 #[.val (.ref a1), .val (.int (2 : Int32)), .val (.int (1 : Int32)), .val (.int (1 : Int32)), .val (.int (1 : Int32))] [(.ref a1)]))
  refine Go.st (fun _ => XS.iconst X0.here C.hx rfl (hb C.hby d4_17)) ?_
  show Go p e below s n0 _ _ _ (T0.setTop (mkF m 18 #[.val (.ref a1), .val (.int (2 : Int32)), .val (.int (1 : Int32)), .val (.int (1 : Int32)), .val (.int (1 : Int32))] [(.int (0 : Int32)), (.ref a1)]))
  refine Go.laload C X0 A1 (by decide) (getL (i := 0) hs (by decide)) d4_18 ?_
  show Go p e below s n0 _ _ _ (T0.setTop (mkF m 19 #[.val (.ref a1), .val (.int (2 : Int32)), .val (.int (1 : Int32)), .val (.int (1 : Int32)), .val (.int (1 : Int32))] [(.long (el sl 0))]))
  refine Go.st (fun _ => XS.aloadN X0.here C.hx rfl (hb C.hby d4_19) rfl rfl) ?_
  show Go p e below s n0 _ _ _ (T0.setTop (mkF m 20 #[.val (.ref a1), .val (.int (2 : Int32)), .val (.int (1 : Int32)), .val (.int (1 : Int32)), .val (.int (1 : Int32))] [(.ref a1), (.long (el sl 0))]))
  refine Go.st (fun _ => XS.iloadN X0.here C.hx rfl (hb C.hby d4_20) rfl) ?_
  show Go p e below s n0 _ _ _ (T0.setTop (mkF m 21 #[.val (.ref a1), .val (.int (2 : Int32)), .val (.int (1 : Int32)), .val (.int (1 : Int32)), .val (.int (1 : Int32))] [(.int (1 : Int32)), (.ref a1), (.long (el sl 0))]))
  refine Go.laload C X0 A1 (by decide) (getL (i := 1) hs (by decide)) d4_21 ?_
  show Go p e below s n0 _ _ _ (T0.setTop (mkF m 22 #[.val (.ref a1), .val (.int (2 : Int32)), .val (.int (1 : Int32)), .val (.int (1 : Int32)), .val (.int (1 : Int32))] [(.long (el sl 1)), (.long (el sl 0))]))
  refine Go.st (fun _ => XS.lcmp X0.here C.hx rfl (hb C.hby d4_22) rfl) ?_
  show Go p e below s n0 _ _ _ (T0.setTop (mkF m 23 #[.val (.ref a1), .val (.int (2 : Int32)), .val (.int (1 : Int32)), .val (.int (1 : Int32)), .val (.int (1 : Int32))] [(.int (lcmpW (el sl 0) (el sl 1)))]))
  refine Go.lif_ne C X0 (pc' := 30) d4_23 (by decide) (by decide) (fun hc23_114 => ?_) (fun hc23_114 => ?_)
  · show Go p e below s n0 _ _ _ (T0.setTop (mkF m 30 #[.val (.ref a1), .val (.int (2 : Int32)), .val (.int (1 : Int32)), .val (.int (1 : Int32)), .val (.int (1 : Int32))] []))
    refine Go.st (fun _ => XS.iconst X0.here C.hx rfl (hb C.hby d4_30)) ?_
    show Go p e below s n0 _ _ _ (T0.setTop (mkF m 31 #[.val (.ref a1), .val (.int (2 : Int32)), .val (.int (1 : Int32)), .val (.int (1 : Int32)), .val (.int (1 : Int32))] [(.int (0 : Int32))]))
    refine Go.st (fun _ => XS.istore X0.here C.hx rfl (hb C.hby d4_31) rfl (l' := #[.val (.ref a1), .val (.int (2 : Int32)), .val (.int (1 : Int32)), .val (.int (1 : Int32)), .val (.int (0 : Int32))]) rfl) ?_
    show Go p e below s n0 _ _ _ (T0.setTop (mkF m 33 #[.val (.ref a1), .val (.int (2 : Int32)), .val (.int (1 : Int32)), .val (.int (1 : Int32)), .val (.int (0 : Int32))] []))
    refine Go.st (fun _ => XS.iloadN X0.here C.hx rfl (hb C.hby d4_33) rfl) ?_
    show Go p e below s n0 _ _ _ (T0.setTop (mkF m 34 #[.val (.ref a1), .val (.int (2 : Int32)), .val (.int (1 : Int32)), .val (.int (1 : Int32)), .val (.int (0 : Int32))] [(.int (1 : Int32))]))
    refine Go.st (fun _ => XS.iconst X0.here C.hx rfl (hb C.hby d4_34)) ?_
    show Go p e below s n0 _ _ _ (T0.setTop (mkF m 35 #[.val (.ref a1), .val (.int (2 : Int32)), .val (.int (1 : Int32)), .val (.int (1 : Int32)), .val (.int (0 : Int32))] [(.int (1 : Int32)), (.int (1 : Int32))]))
    refine Go.icmp_le C X0 (pc' := 62) d4_35 (by decide) (by decide) (fun _ => ?_) (fun hc => absurd hc (by decide))
    show Go p e below s n0 _ _ _ (T0.setTop (mkF m 62 #[.val (.ref a1), .val (.int (2 : Int32)), .val (.int (1 : Int32)), .val (.int (1 : Int32)), .val (.int (0 : Int32))] []))
    refine Go.st (fun _ => XS.iloadN X0.here C.hx rfl (hb C.hby d4_62) rfl) ?_
    show Go p e below s n0 _ _ _ (T0.setTop (mkF m 63 #[.val (.ref a1), .val (.int (2 : Int32)), .val (.int (1 : Int32)), .val (.int (1 : Int32)), .val (.int (0 : Int32))] [(.int (1 : Int32))]))
    refine Go.st (fun _ => XS.iconst X0.here C.hx rfl (hb C.hby d4_63)) ?_
    show Go p e below s n0 _ _ _ (T0.setTop (mkF m 64 #[.val (.ref a1), .val (.int (2 : Int32)), .val (.int (1 : Int32)), .val (.int (1 : Int32)), .val (.int (0 : Int32))] [(.int (2 : Int32)), (.int (1 : Int32))]))
    refine Go.icmp_le C X0 (pc' := 91) d4_64 (by decide) (by decide) (fun _ => ?_) (fun hc => absurd hc (by decide))
    show Go p e below s n0 _ _ _ (T0.setTop (mkF m 91 #[.val (.ref a1), .val (.int (2 : Int32)), .val (.int (1 : Int32)), .val (.int (1 : Int32)), .val (.int (0 : Int32))] []))
    refine Go.st (fun _ => XS.iloadN X0.here C.hx rfl (hb C.hby d4_91) rfl) ?_
    show Go p e below s n0 _ _ _ (T0.setTop (mkF m 92 #[.val (.ref a1), .val (.int (2 : Int32)), .val (.int (1 : Int32)), .val (.int (1 : Int32)), .val (.int (0 : Int32))] [(.int (1 : Int32))]))
    refine Go.st (fun _ => XS.iconst X0.here C.hx rfl (hb C.hby d4_92)) ?_
    show Go p e below s n0 _ _ _ (T0.setTop (mkF m 93 #[.val (.ref a1), .val (.int (2 : Int32)), .val (.int (1 : Int32)), .val (.int (1 : Int32)), .val (.int (0 : Int32))] [(.int (3 : Int32)), (.int (1 : Int32))]))
    refine Go.icmp_le C X0 (pc' := 120) d4_93 (by decide) (by decide) (fun _ => ?_) (fun hc => absurd hc (by decide))
    show Go p e below s n0 _ _ _ (T0.setTop (mkF m 120 #[.val (.ref a1), .val (.int (2 : Int32)), .val (.int (1 : Int32)), .val (.int (1 : Int32)), .val (.int (0 : Int32))] []))
    refine Go.st (fun _ => XS.iloadN X0.here C.hx rfl (hb C.hby d4_120) rfl) ?_
    show Go p e below s n0 _ _ _ (T0.setTop (mkF m 121 #[.val (.ref a1), .val (.int (2 : Int32)), .val (.int (1 : Int32)), .val (.int (1 : Int32)), .val (.int (0 : Int32))] [(.int (1 : Int32))]))
    refine Go.st (fun _ => XS.iconst X0.here C.hx rfl (hb C.hby d4_121)) ?_
    show Go p e below s n0 _ _ _ (T0.setTop (mkF m 122 #[.val (.ref a1), .val (.int (2 : Int32)), .val (.int (1 : Int32)), .val (.int (1 : Int32)), .val (.int (0 : Int32))] [(.int (4 : Int32)), (.int (1 : Int32))]))
    refine Go.icmp_le C X0 (pc' := 149) d4_122 (by decide) (by decide) (fun _ => ?_) (fun hc => absurd hc (by decide))
    show Go p e below s n0 _ _ _ (T0.setTop (mkF m 149 #[.val (.ref a1), .val (.int (2 : Int32)), .val (.int (1 : Int32)), .val (.int (1 : Int32)), .val (.int (0 : Int32))] []))
    refine Go.st (fun _ => XS.iload X0.here C.hx rfl (hb C.hby d4_149) rfl) ?_
    show Go p e below s n0 _ _ _ (T0.setTop (mkF m 151 #[.val (.ref a1), .val (.int (2 : Int32)), .val (.int (1 : Int32)), .val (.int (1 : Int32)), .val (.int (0 : Int32))] [(.int (0 : Int32))]))
    exact Go.retZ C X0 (by decide) d4_151 ⟨by simp [b2i, sameE, Esl, List.range_succ, hc23_114], rfl⟩ (by decide) (by decide)
  · show Go p e below s n0 _ _ _ (T0.setTop (mkF m 26 #[.val (.ref a1), .val (.int (2 : Int32)), .val (.int (1 : Int32)), .val (.int (1 : Int32)), .val (.int (1 : Int32))] []))
    refine Go.st (fun _ => XS.iconst X0.here C.hx rfl (hb C.hby d4_26)) ?_
    show Go p e below s n0 _ _ _ (T0.setTop (mkF m 27 #[.val (.ref a1), .val (.int (2 : Int32)), .val (.int (1 : Int32)), .val (.int (1 : Int32)), .val (.int (1 : Int32))] [(.int (1 : Int32))]))
    refine Go.st (fun _ => XS.goto X0.here C.hx rfl (pc0 := 27) (pc' := 31) rfl (hb C.hby d4_27) (by decide) (by decide)) ?_
    show Go p e below s n0 _ _ _ (T0.setTop (mkF m 31 #[.val (.ref a1), .val (.int (2 : Int32)), .val (.int (1 : Int32)), .val (.int (1 : Int32)), .val (.int (1 : Int32))] [(.int (1 : Int32))]))
    refine Go.st (fun _ => XS.istore X0.here C.hx rfl (hb C.hby d4_31) rfl (l' := #[.val (.ref a1), .val (.int (2 : Int32)), .val (.int (1 : Int32)), .val (.int (1 : Int32)), .val (.int (1 : Int32))]) rfl) ?_
    show Go p e below s n0 _ _ _ (T0.setTop (mkF m 33 #[.val (.ref a1), .val (.int (2 : Int32)), .val (.int (1 : Int32)), .val (.int (1 : Int32)), .val (.int (1 : Int32))] []))
    refine Go.st (fun _ => XS.iloadN X0.here C.hx rfl (hb C.hby d4_33) rfl) ?_
    show Go p e below s n0 _ _ _ (T0.setTop (mkF m 34 #[.val (.ref a1), .val (.int (2 : Int32)), .val (.int (1 : Int32)), .val (.int (1 : Int32)), .val (.int (1 : Int32))] [(.int (1 : Int32))]))
    refine Go.st (fun _ => XS.iconst X0.here C.hx rfl (hb C.hby d4_34)) ?_
    show Go p e below s n0 _ _ _ (T0.setTop (mkF m 35 #[.val (.ref a1), .val (.int (2 : Int32)), .val (.int (1 : Int32)), .val (.int (1 : Int32)), .val (.int (1 : Int32))] [(.int (1 : Int32)), (.int (1 : Int32))]))
    refine Go.icmp_le C X0 (pc' := 62) d4_35 (by decide) (by decide) (fun _ => ?_) (fun hc => absurd hc (by decide))
    show Go p e below s n0 _ _ _ (T0.setTop (mkF m 62 #[.val (.ref a1), .val (.int (2 : Int32)), .val (.int (1 : Int32)), .val (.int (1 : Int32)), .val (.int (1 : Int32))] []))
    refine Go.st (fun _ => XS.iloadN X0.here C.hx rfl (hb C.hby d4_62) rfl) ?_
    show Go p e below s n0 _ _ _ (T0.setTop (mkF m 63 #[.val (.ref a1), .val (.int (2 : Int32)), .val (.int (1 : Int32)), .val (.int (1 : Int32)), .val (.int (1 : Int32))] [(.int (1 : Int32))]))
    refine Go.st (fun _ => XS.iconst X0.here C.hx rfl (hb C.hby d4_63)) ?_
    show Go p e below s n0 _ _ _ (T0.setTop (mkF m 64 #[.val (.ref a1), .val (.int (2 : Int32)), .val (.int (1 : Int32)), .val (.int (1 : Int32)), .val (.int (1 : Int32))] [(.int (2 : Int32)), (.int (1 : Int32))]))
    refine Go.icmp_le C X0 (pc' := 91) d4_64 (by decide) (by decide) (fun _ => ?_) (fun hc => absurd hc (by decide))
    show Go p e below s n0 _ _ _ (T0.setTop (mkF m 91 #[.val (.ref a1), .val (.int (2 : Int32)), .val (.int (1 : Int32)), .val (.int (1 : Int32)), .val (.int (1 : Int32))] []))
    refine Go.st (fun _ => XS.iloadN X0.here C.hx rfl (hb C.hby d4_91) rfl) ?_
    show Go p e below s n0 _ _ _ (T0.setTop (mkF m 92 #[.val (.ref a1), .val (.int (2 : Int32)), .val (.int (1 : Int32)), .val (.int (1 : Int32)), .val (.int (1 : Int32))] [(.int (1 : Int32))]))
    refine Go.st (fun _ => XS.iconst X0.here C.hx rfl (hb C.hby d4_92)) ?_
    show Go p e below s n0 _ _ _ (T0.setTop (mkF m 93 #[.val (.ref a1), .val (.int (2 : Int32)), .val (.int (1 : Int32)), .val (.int (1 : Int32)), .val (.int (1 : Int32))] [(.int (3 : Int32)), (.int (1 : Int32))]))
    refine Go.icmp_le C X0 (pc' := 120) d4_93 (by decide) (by decide) (fun _ => ?_) (fun hc => absurd hc (by decide))
    show Go p e below s n0 _ _ _ (T0.setTop (mkF m 120 #[.val (.ref a1), .val (.int (2 : Int32)), .val (.int (1 : Int32)), .val (.int (1 : Int32)), .val (.int (1 : Int32))] []))
    refine Go.st (fun _ => XS.iloadN X0.here C.hx rfl (hb C.hby d4_120) rfl) ?_
    show Go p e below s n0 _ _ _ (T0.setTop (mkF m 121 #[.val (.ref a1), .val (.int (2 : Int32)), .val (.int (1 : Int32)), .val (.int (1 : Int32)), .val (.int (1 : Int32))] [(.int (1 : Int32))]))
    refine Go.st (fun _ => XS.iconst X0.here C.hx rfl (hb C.hby d4_121)) ?_
    show Go p e below s n0 _ _ _ (T0.setTop (mkF m 122 #[.val (.ref a1), .val (.int (2 : Int32)), .val (.int (1 : Int32)), .val (.int (1 : Int32)), .val (.int (1 : Int32))] [(.int (4 : Int32)), (.int (1 : Int32))]))
    refine Go.icmp_le C X0 (pc' := 149) d4_122 (by decide) (by decide) (fun _ => ?_) (fun hc => absurd hc (by decide))
    show Go p e below s n0 _ _ _ (T0.setTop (mkF m 149 #[.val (.ref a1), .val (.int (2 : Int32)), .val (.int (1 : Int32)), .val (.int (1 : Int32)), .val (.int (1 : Int32))] []))
    refine Go.st (fun _ => XS.iload X0.here C.hx rfl (hb C.hby d4_149) rfl) ?_
    show Go p e below s n0 _ _ _ (T0.setTop (mkF m 151 #[.val (.ref a1), .val (.int (2 : Int32)), .val (.int (1 : Int32)), .val (.int (1 : Int32)), .val (.int (1 : Int32))] [(.int (1 : Int32))]))
    exact Go.retZ C X0 (by decide) d4_151 ⟨by simp [b2i, sameE, Esl, List.range_succ, hc23_114], rfl⟩ (by decide) (by decide)
set_option maxRecDepth 65536 in
set_option maxHeartbeats 40000000 in
theorem con_same_3_1 (l : Launch) (Z : State) (a0 : Array Value) (hw : ∀ d ∈ tables_1, d.before a0 Z = true) (n0 : Nat) (h0 : Heap) (Z0 : n0 ≤ h0.size) (a1 : Addr) (sl : List Int64) (hs : sl.length = 6) (A1 : AR Z h0 a1 .long (sl.map Value.long)) :
    Con l Z (⟨"com/example/orderly_ring/orderlyring/model/SequencesExtendBordersPinLaw", "same", "([JII)Z"⟩ : MethodName) method_3_code 5 (some .boolean) [] ({ frames := 0, cells := 0, slots := 0, locals := 0 } : Room) n0 #[(.ref a1), (.int (3 : Int32)), (.int (1 : Int32))] h0 (fun v h => v = some (.int (b2i (sameE (Esl sl) 3 1))) ∧ h = h0) := by
  refine Con.mk pf_4 hw Z0 ?_
  intro p e s m below meth c T0 C X0
  have ef : entryFrame m #[(.ref a1), (.int (3 : Int32)), (.int (1 : Int32))] 5 = mkF m 0 #[.val (.ref a1), .val (.int (3 : Int32)), .val (.int (1 : Int32)), .unset, .unset] [] := by first | (simp [entryFrame, mkF, argsToLocals, Value.category]; done) | rfl
  rw [ef]
  show Go p e below s n0 _ _ _ (T0.setTop (mkF m 0 #[.val (.ref a1), .val (.int (3 : Int32)), .val (.int (1 : Int32)), .unset, .unset] []))
  refine Go.st (fun _ => XS.iloadN X0.here C.hx rfl (hb C.hby d4_0) rfl) ?_
  show Go p e below s n0 _ _ _ (T0.setTop (mkF m 1 #[.val (.ref a1), .val (.int (3 : Int32)), .val (.int (1 : Int32)), .unset, .unset] [(.int (3 : Int32))]))
  refine Go.st (fun _ => XS.iloadN X0.here C.hx rfl (hb C.hby d4_1) rfl) ?_
  show Go p e below s n0 _ _ _ (T0.setTop (mkF m 2 #[.val (.ref a1), .val (.int (3 : Int32)), .val (.int (1 : Int32)), .unset, .unset] [(.int (1 : Int32)), (.int (3 : Int32))]))
  refine Go.st (fun _ => XS.isub X0.here C.hx rfl (hb C.hby d4_2) rfl) ?_
  show Go p e below s n0 _ _ _ (T0.setTop (mkF m 3 #[.val (.ref a1), .val (.int (3 : Int32)), .val (.int (1 : Int32)), .unset, .unset] [(.int (2 : Int32))]))
  refine Go.st (fun _ => XS.istoreN X0.here C.hx rfl (hb C.hby d4_3) rfl (l' := #[.val (.ref a1), .val (.int (3 : Int32)), .val (.int (1 : Int32)), .val (.int (2 : Int32)), .unset]) rfl) ?_
  show Go p e below s n0 _ _ _ (T0.setTop (mkF m 4 #[.val (.ref a1), .val (.int (3 : Int32)), .val (.int (1 : Int32)), .val (.int (2 : Int32)), .unset] []))
  refine Go.st (fun _ => XS.iconst X0.here C.hx rfl (hb C.hby d4_4)) ?_
  show Go p e below s n0 _ _ _ (T0.setTop (mkF m 5 #[.val (.ref a1), .val (.int (3 : Int32)), .val (.int (1 : Int32)), .val (.int (2 : Int32)), .unset] [(.int (1 : Int32))]))
  refine Go.st (fun _ => XS.istore X0.here C.hx rfl (hb C.hby d4_5) rfl (l' := #[.val (.ref a1), .val (.int (3 : Int32)), .val (.int (1 : Int32)), .val (.int (2 : Int32)), .val (.int (1 : Int32))]) rfl) ?_
  show Go p e below s n0 _ _ _ (T0.setTop (mkF m 7 #[.val (.ref a1), .val (.int (3 : Int32)), .val (.int (1 : Int32)), .val (.int (2 : Int32)), .val (.int (1 : Int32))] []))
  refine Go.st (fun _ => XS.iloadN X0.here C.hx rfl (hb C.hby d4_7) rfl) ?_
  show Go p e below s n0 _ _ _ (T0.setTop (mkF m 8 #[.val (.ref a1), .val (.int (3 : Int32)), .val (.int (1 : Int32)), .val (.int (2 : Int32)), .val (.int (1 : Int32))] [(.int (1 : Int32))]))
  refine Go.if_le C X0 (pc' := 33) d4_8 (by decide) (by decide) (fun hc => absurd hc (by decide)) (fun _ => ?_)
  show Go p e below s n0 _ _ _ (T0.setTop (mkF m 11 #[.val (.ref a1), .val (.int (3 : Int32)), .val (.int (1 : Int32)), .val (.int (2 : Int32)), .val (.int (1 : Int32))] []))
  refine Go.st (fun _ => XS.iload X0.here C.hx rfl (hb C.hby d4_11) rfl) ?_
  show Go p e below s n0 _ _ _ (T0.setTop (mkF m 13 #[.val (.ref a1), .val (.int (3 : Int32)), .val (.int (1 : Int32)), .val (.int (2 : Int32)), .val (.int (1 : Int32))] [(.int (1 : Int32))]))
  refine Go.if_eq C X0 (pc' := 30) d4_13 (by decide) (by decide) (fun hc => absurd hc (by decide)) (fun _ => ?_)
  show Go p e below s n0 _ _ _ (T0.setTop (mkF m 16 #[.val (.ref a1), .val (.int (3 : Int32)), .val (.int (1 : Int32)), .val (.int (2 : Int32)), .val (.int (1 : Int32))] []))
  refine Go.st (fun _ => XS.aloadN X0.here C.hx rfl (hb C.hby d4_16) rfl rfl) ?_
  show Go p e below s n0 _ _ _ (T0.setTop (mkF m 17 #[.val (.ref a1), .val (.int (3 : Int32)), .val (.int (1 : Int32)), .val (.int (2 : Int32)), .val (.int (1 : Int32))] [(.ref a1)]))
  refine Go.st (fun _ => XS.iconst X0.here C.hx rfl (hb C.hby d4_17)) ?_
  show Go p e below s n0 _ _ _ (T0.setTop (mkF m 18 #[.val (.ref a1), .val (.int (3 : Int32)), .val (.int (1 : Int32)), .val (.int (2 : Int32)), .val (.int (1 : Int32))] [(.int (0 : Int32)), (.ref a1)]))
  refine Go.laload C X0 A1 (by decide) (getL (i := 0) hs (by decide)) d4_18 ?_
  show Go p e below s n0 _ _ _ (T0.setTop (mkF m 19 #[.val (.ref a1), .val (.int (3 : Int32)), .val (.int (1 : Int32)), .val (.int (2 : Int32)), .val (.int (1 : Int32))] [(.long (el sl 0))]))
  refine Go.st (fun _ => XS.aloadN X0.here C.hx rfl (hb C.hby d4_19) rfl rfl) ?_
  show Go p e below s n0 _ _ _ (T0.setTop (mkF m 20 #[.val (.ref a1), .val (.int (3 : Int32)), .val (.int (1 : Int32)), .val (.int (2 : Int32)), .val (.int (1 : Int32))] [(.ref a1), (.long (el sl 0))]))
  refine Go.st (fun _ => XS.iloadN X0.here C.hx rfl (hb C.hby d4_20) rfl) ?_
  show Go p e below s n0 _ _ _ (T0.setTop (mkF m 21 #[.val (.ref a1), .val (.int (3 : Int32)), .val (.int (1 : Int32)), .val (.int (2 : Int32)), .val (.int (1 : Int32))] [(.int (2 : Int32)), (.ref a1), (.long (el sl 0))]))
  refine Go.laload C X0 A1 (by decide) (getL (i := 2) hs (by decide)) d4_21 ?_
  show Go p e below s n0 _ _ _ (T0.setTop (mkF m 22 #[.val (.ref a1), .val (.int (3 : Int32)), .val (.int (1 : Int32)), .val (.int (2 : Int32)), .val (.int (1 : Int32))] [(.long (el sl 2)), (.long (el sl 0))]))
  refine Go.st (fun _ => XS.lcmp X0.here C.hx rfl (hb C.hby d4_22) rfl) ?_
  show Go p e below s n0 _ _ _ (T0.setTop (mkF m 23 #[.val (.ref a1), .val (.int (3 : Int32)), .val (.int (1 : Int32)), .val (.int (2 : Int32)), .val (.int (1 : Int32))] [(.int (lcmpW (el sl 0) (el sl 2)))]))
  refine Go.lif_ne C X0 (pc' := 30) d4_23 (by decide) (by decide) (fun hc23_125 => ?_) (fun hc23_125 => ?_)
  · show Go p e below s n0 _ _ _ (T0.setTop (mkF m 30 #[.val (.ref a1), .val (.int (3 : Int32)), .val (.int (1 : Int32)), .val (.int (2 : Int32)), .val (.int (1 : Int32))] []))
    refine Go.st (fun _ => XS.iconst X0.here C.hx rfl (hb C.hby d4_30)) ?_
    show Go p e below s n0 _ _ _ (T0.setTop (mkF m 31 #[.val (.ref a1), .val (.int (3 : Int32)), .val (.int (1 : Int32)), .val (.int (2 : Int32)), .val (.int (1 : Int32))] [(.int (0 : Int32))]))
    refine Go.st (fun _ => XS.istore X0.here C.hx rfl (hb C.hby d4_31) rfl (l' := #[.val (.ref a1), .val (.int (3 : Int32)), .val (.int (1 : Int32)), .val (.int (2 : Int32)), .val (.int (0 : Int32))]) rfl) ?_
    show Go p e below s n0 _ _ _ (T0.setTop (mkF m 33 #[.val (.ref a1), .val (.int (3 : Int32)), .val (.int (1 : Int32)), .val (.int (2 : Int32)), .val (.int (0 : Int32))] []))
    refine Go.st (fun _ => XS.iloadN X0.here C.hx rfl (hb C.hby d4_33) rfl) ?_
    show Go p e below s n0 _ _ _ (T0.setTop (mkF m 34 #[.val (.ref a1), .val (.int (3 : Int32)), .val (.int (1 : Int32)), .val (.int (2 : Int32)), .val (.int (0 : Int32))] [(.int (1 : Int32))]))
    refine Go.st (fun _ => XS.iconst X0.here C.hx rfl (hb C.hby d4_34)) ?_
    show Go p e below s n0 _ _ _ (T0.setTop (mkF m 35 #[.val (.ref a1), .val (.int (3 : Int32)), .val (.int (1 : Int32)), .val (.int (2 : Int32)), .val (.int (0 : Int32))] [(.int (1 : Int32)), (.int (1 : Int32))]))
    refine Go.icmp_le C X0 (pc' := 62) d4_35 (by decide) (by decide) (fun _ => ?_) (fun hc => absurd hc (by decide))
    show Go p e below s n0 _ _ _ (T0.setTop (mkF m 62 #[.val (.ref a1), .val (.int (3 : Int32)), .val (.int (1 : Int32)), .val (.int (2 : Int32)), .val (.int (0 : Int32))] []))
    refine Go.st (fun _ => XS.iloadN X0.here C.hx rfl (hb C.hby d4_62) rfl) ?_
    show Go p e below s n0 _ _ _ (T0.setTop (mkF m 63 #[.val (.ref a1), .val (.int (3 : Int32)), .val (.int (1 : Int32)), .val (.int (2 : Int32)), .val (.int (0 : Int32))] [(.int (1 : Int32))]))
    refine Go.st (fun _ => XS.iconst X0.here C.hx rfl (hb C.hby d4_63)) ?_
    show Go p e below s n0 _ _ _ (T0.setTop (mkF m 64 #[.val (.ref a1), .val (.int (3 : Int32)), .val (.int (1 : Int32)), .val (.int (2 : Int32)), .val (.int (0 : Int32))] [(.int (2 : Int32)), (.int (1 : Int32))]))
    refine Go.icmp_le C X0 (pc' := 91) d4_64 (by decide) (by decide) (fun _ => ?_) (fun hc => absurd hc (by decide))
    show Go p e below s n0 _ _ _ (T0.setTop (mkF m 91 #[.val (.ref a1), .val (.int (3 : Int32)), .val (.int (1 : Int32)), .val (.int (2 : Int32)), .val (.int (0 : Int32))] []))
    refine Go.st (fun _ => XS.iloadN X0.here C.hx rfl (hb C.hby d4_91) rfl) ?_
    show Go p e below s n0 _ _ _ (T0.setTop (mkF m 92 #[.val (.ref a1), .val (.int (3 : Int32)), .val (.int (1 : Int32)), .val (.int (2 : Int32)), .val (.int (0 : Int32))] [(.int (1 : Int32))]))
    refine Go.st (fun _ => XS.iconst X0.here C.hx rfl (hb C.hby d4_92)) ?_
    show Go p e below s n0 _ _ _ (T0.setTop (mkF m 93 #[.val (.ref a1), .val (.int (3 : Int32)), .val (.int (1 : Int32)), .val (.int (2 : Int32)), .val (.int (0 : Int32))] [(.int (3 : Int32)), (.int (1 : Int32))]))
    refine Go.icmp_le C X0 (pc' := 120) d4_93 (by decide) (by decide) (fun _ => ?_) (fun hc => absurd hc (by decide))
    show Go p e below s n0 _ _ _ (T0.setTop (mkF m 120 #[.val (.ref a1), .val (.int (3 : Int32)), .val (.int (1 : Int32)), .val (.int (2 : Int32)), .val (.int (0 : Int32))] []))
    refine Go.st (fun _ => XS.iloadN X0.here C.hx rfl (hb C.hby d4_120) rfl) ?_
    show Go p e below s n0 _ _ _ (T0.setTop (mkF m 121 #[.val (.ref a1), .val (.int (3 : Int32)), .val (.int (1 : Int32)), .val (.int (2 : Int32)), .val (.int (0 : Int32))] [(.int (1 : Int32))]))
    refine Go.st (fun _ => XS.iconst X0.here C.hx rfl (hb C.hby d4_121)) ?_
    show Go p e below s n0 _ _ _ (T0.setTop (mkF m 122 #[.val (.ref a1), .val (.int (3 : Int32)), .val (.int (1 : Int32)), .val (.int (2 : Int32)), .val (.int (0 : Int32))] [(.int (4 : Int32)), (.int (1 : Int32))]))
    refine Go.icmp_le C X0 (pc' := 149) d4_122 (by decide) (by decide) (fun _ => ?_) (fun hc => absurd hc (by decide))
    show Go p e below s n0 _ _ _ (T0.setTop (mkF m 149 #[.val (.ref a1), .val (.int (3 : Int32)), .val (.int (1 : Int32)), .val (.int (2 : Int32)), .val (.int (0 : Int32))] []))
    refine Go.st (fun _ => XS.iload X0.here C.hx rfl (hb C.hby d4_149) rfl) ?_
    show Go p e below s n0 _ _ _ (T0.setTop (mkF m 151 #[.val (.ref a1), .val (.int (3 : Int32)), .val (.int (1 : Int32)), .val (.int (2 : Int32)), .val (.int (0 : Int32))] [(.int (0 : Int32))]))
    exact Go.retZ C X0 (by decide) d4_151 ⟨by simp [b2i, sameE, Esl, List.range_succ, hc23_125], rfl⟩ (by decide) (by decide)
  · show Go p e below s n0 _ _ _ (T0.setTop (mkF m 26 #[.val (.ref a1), .val (.int (3 : Int32)), .val (.int (1 : Int32)), .val (.int (2 : Int32)), .val (.int (1 : Int32))] []))
    refine Go.st (fun _ => XS.iconst X0.here C.hx rfl (hb C.hby d4_26)) ?_
    show Go p e below s n0 _ _ _ (T0.setTop (mkF m 27 #[.val (.ref a1), .val (.int (3 : Int32)), .val (.int (1 : Int32)), .val (.int (2 : Int32)), .val (.int (1 : Int32))] [(.int (1 : Int32))]))
    refine Go.st (fun _ => XS.goto X0.here C.hx rfl (pc0 := 27) (pc' := 31) rfl (hb C.hby d4_27) (by decide) (by decide)) ?_
    show Go p e below s n0 _ _ _ (T0.setTop (mkF m 31 #[.val (.ref a1), .val (.int (3 : Int32)), .val (.int (1 : Int32)), .val (.int (2 : Int32)), .val (.int (1 : Int32))] [(.int (1 : Int32))]))
    refine Go.st (fun _ => XS.istore X0.here C.hx rfl (hb C.hby d4_31) rfl (l' := #[.val (.ref a1), .val (.int (3 : Int32)), .val (.int (1 : Int32)), .val (.int (2 : Int32)), .val (.int (1 : Int32))]) rfl) ?_
    show Go p e below s n0 _ _ _ (T0.setTop (mkF m 33 #[.val (.ref a1), .val (.int (3 : Int32)), .val (.int (1 : Int32)), .val (.int (2 : Int32)), .val (.int (1 : Int32))] []))
    refine Go.st (fun _ => XS.iloadN X0.here C.hx rfl (hb C.hby d4_33) rfl) ?_
    show Go p e below s n0 _ _ _ (T0.setTop (mkF m 34 #[.val (.ref a1), .val (.int (3 : Int32)), .val (.int (1 : Int32)), .val (.int (2 : Int32)), .val (.int (1 : Int32))] [(.int (1 : Int32))]))
    refine Go.st (fun _ => XS.iconst X0.here C.hx rfl (hb C.hby d4_34)) ?_
    show Go p e below s n0 _ _ _ (T0.setTop (mkF m 35 #[.val (.ref a1), .val (.int (3 : Int32)), .val (.int (1 : Int32)), .val (.int (2 : Int32)), .val (.int (1 : Int32))] [(.int (1 : Int32)), (.int (1 : Int32))]))
    refine Go.icmp_le C X0 (pc' := 62) d4_35 (by decide) (by decide) (fun _ => ?_) (fun hc => absurd hc (by decide))
    show Go p e below s n0 _ _ _ (T0.setTop (mkF m 62 #[.val (.ref a1), .val (.int (3 : Int32)), .val (.int (1 : Int32)), .val (.int (2 : Int32)), .val (.int (1 : Int32))] []))
    refine Go.st (fun _ => XS.iloadN X0.here C.hx rfl (hb C.hby d4_62) rfl) ?_
    show Go p e below s n0 _ _ _ (T0.setTop (mkF m 63 #[.val (.ref a1), .val (.int (3 : Int32)), .val (.int (1 : Int32)), .val (.int (2 : Int32)), .val (.int (1 : Int32))] [(.int (1 : Int32))]))
    refine Go.st (fun _ => XS.iconst X0.here C.hx rfl (hb C.hby d4_63)) ?_
    show Go p e below s n0 _ _ _ (T0.setTop (mkF m 64 #[.val (.ref a1), .val (.int (3 : Int32)), .val (.int (1 : Int32)), .val (.int (2 : Int32)), .val (.int (1 : Int32))] [(.int (2 : Int32)), (.int (1 : Int32))]))
    refine Go.icmp_le C X0 (pc' := 91) d4_64 (by decide) (by decide) (fun _ => ?_) (fun hc => absurd hc (by decide))
    show Go p e below s n0 _ _ _ (T0.setTop (mkF m 91 #[.val (.ref a1), .val (.int (3 : Int32)), .val (.int (1 : Int32)), .val (.int (2 : Int32)), .val (.int (1 : Int32))] []))
    refine Go.st (fun _ => XS.iloadN X0.here C.hx rfl (hb C.hby d4_91) rfl) ?_
    show Go p e below s n0 _ _ _ (T0.setTop (mkF m 92 #[.val (.ref a1), .val (.int (3 : Int32)), .val (.int (1 : Int32)), .val (.int (2 : Int32)), .val (.int (1 : Int32))] [(.int (1 : Int32))]))
    refine Go.st (fun _ => XS.iconst X0.here C.hx rfl (hb C.hby d4_92)) ?_
    show Go p e below s n0 _ _ _ (T0.setTop (mkF m 93 #[.val (.ref a1), .val (.int (3 : Int32)), .val (.int (1 : Int32)), .val (.int (2 : Int32)), .val (.int (1 : Int32))] [(.int (3 : Int32)), (.int (1 : Int32))]))
    refine Go.icmp_le C X0 (pc' := 120) d4_93 (by decide) (by decide) (fun _ => ?_) (fun hc => absurd hc (by decide))
    show Go p e below s n0 _ _ _ (T0.setTop (mkF m 120 #[.val (.ref a1), .val (.int (3 : Int32)), .val (.int (1 : Int32)), .val (.int (2 : Int32)), .val (.int (1 : Int32))] []))
    refine Go.st (fun _ => XS.iloadN X0.here C.hx rfl (hb C.hby d4_120) rfl) ?_
    show Go p e below s n0 _ _ _ (T0.setTop (mkF m 121 #[.val (.ref a1), .val (.int (3 : Int32)), .val (.int (1 : Int32)), .val (.int (2 : Int32)), .val (.int (1 : Int32))] [(.int (1 : Int32))]))
    refine Go.st (fun _ => XS.iconst X0.here C.hx rfl (hb C.hby d4_121)) ?_
    show Go p e below s n0 _ _ _ (T0.setTop (mkF m 122 #[.val (.ref a1), .val (.int (3 : Int32)), .val (.int (1 : Int32)), .val (.int (2 : Int32)), .val (.int (1 : Int32))] [(.int (4 : Int32)), (.int (1 : Int32))]))
    refine Go.icmp_le C X0 (pc' := 149) d4_122 (by decide) (by decide) (fun _ => ?_) (fun hc => absurd hc (by decide))
    show Go p e below s n0 _ _ _ (T0.setTop (mkF m 149 #[.val (.ref a1), .val (.int (3 : Int32)), .val (.int (1 : Int32)), .val (.int (2 : Int32)), .val (.int (1 : Int32))] []))
    refine Go.st (fun _ => XS.iload X0.here C.hx rfl (hb C.hby d4_149) rfl) ?_
    show Go p e below s n0 _ _ _ (T0.setTop (mkF m 151 #[.val (.ref a1), .val (.int (3 : Int32)), .val (.int (1 : Int32)), .val (.int (2 : Int32)), .val (.int (1 : Int32))] [(.int (1 : Int32))]))
    exact Go.retZ C X0 (by decide) d4_151 ⟨by simp [b2i, sameE, Esl, List.range_succ, hc23_125], rfl⟩ (by decide) (by decide)
set_option maxRecDepth 65536 in
set_option maxHeartbeats 40000000 in
theorem con_same_3_2 (l : Launch) (Z : State) (a0 : Array Value) (hw : ∀ d ∈ tables_1, d.before a0 Z = true) (n0 : Nat) (h0 : Heap) (Z0 : n0 ≤ h0.size) (a1 : Addr) (sl : List Int64) (hs : sl.length = 6) (A1 : AR Z h0 a1 .long (sl.map Value.long)) :
    Con l Z (⟨"com/example/orderly_ring/orderlyring/model/SequencesExtendBordersPinLaw", "same", "([JII)Z"⟩ : MethodName) method_3_code 5 (some .boolean) [] ({ frames := 0, cells := 0, slots := 0, locals := 0 } : Room) n0 #[(.ref a1), (.int (3 : Int32)), (.int (2 : Int32))] h0 (fun v h => v = some (.int (b2i (sameE (Esl sl) 3 2))) ∧ h = h0) := by
  refine Con.mk pf_4 hw Z0 ?_
  intro p e s m below meth c T0 C X0
  have ef : entryFrame m #[(.ref a1), (.int (3 : Int32)), (.int (2 : Int32))] 5 = mkF m 0 #[.val (.ref a1), .val (.int (3 : Int32)), .val (.int (2 : Int32)), .unset, .unset] [] := by first | (simp [entryFrame, mkF, argsToLocals, Value.category]; done) | rfl
  rw [ef]
  show Go p e below s n0 _ _ _ (T0.setTop (mkF m 0 #[.val (.ref a1), .val (.int (3 : Int32)), .val (.int (2 : Int32)), .unset, .unset] []))
  refine Go.st (fun _ => XS.iloadN X0.here C.hx rfl (hb C.hby d4_0) rfl) ?_
  show Go p e below s n0 _ _ _ (T0.setTop (mkF m 1 #[.val (.ref a1), .val (.int (3 : Int32)), .val (.int (2 : Int32)), .unset, .unset] [(.int (3 : Int32))]))
  refine Go.st (fun _ => XS.iloadN X0.here C.hx rfl (hb C.hby d4_1) rfl) ?_
  show Go p e below s n0 _ _ _ (T0.setTop (mkF m 2 #[.val (.ref a1), .val (.int (3 : Int32)), .val (.int (2 : Int32)), .unset, .unset] [(.int (2 : Int32)), (.int (3 : Int32))]))
  refine Go.st (fun _ => XS.isub X0.here C.hx rfl (hb C.hby d4_2) rfl) ?_
  show Go p e below s n0 _ _ _ (T0.setTop (mkF m 3 #[.val (.ref a1), .val (.int (3 : Int32)), .val (.int (2 : Int32)), .unset, .unset] [(.int (1 : Int32))]))
  refine Go.st (fun _ => XS.istoreN X0.here C.hx rfl (hb C.hby d4_3) rfl (l' := #[.val (.ref a1), .val (.int (3 : Int32)), .val (.int (2 : Int32)), .val (.int (1 : Int32)), .unset]) rfl) ?_
  show Go p e below s n0 _ _ _ (T0.setTop (mkF m 4 #[.val (.ref a1), .val (.int (3 : Int32)), .val (.int (2 : Int32)), .val (.int (1 : Int32)), .unset] []))
  refine Go.st (fun _ => XS.iconst X0.here C.hx rfl (hb C.hby d4_4)) ?_
  show Go p e below s n0 _ _ _ (T0.setTop (mkF m 5 #[.val (.ref a1), .val (.int (3 : Int32)), .val (.int (2 : Int32)), .val (.int (1 : Int32)), .unset] [(.int (1 : Int32))]))
  refine Go.st (fun _ => XS.istore X0.here C.hx rfl (hb C.hby d4_5) rfl (l' := #[.val (.ref a1), .val (.int (3 : Int32)), .val (.int (2 : Int32)), .val (.int (1 : Int32)), .val (.int (1 : Int32))]) rfl) ?_
  show Go p e below s n0 _ _ _ (T0.setTop (mkF m 7 #[.val (.ref a1), .val (.int (3 : Int32)), .val (.int (2 : Int32)), .val (.int (1 : Int32)), .val (.int (1 : Int32))] []))
  refine Go.st (fun _ => XS.iloadN X0.here C.hx rfl (hb C.hby d4_7) rfl) ?_
  show Go p e below s n0 _ _ _ (T0.setTop (mkF m 8 #[.val (.ref a1), .val (.int (3 : Int32)), .val (.int (2 : Int32)), .val (.int (1 : Int32)), .val (.int (1 : Int32))] [(.int (2 : Int32))]))
  refine Go.if_le C X0 (pc' := 33) d4_8 (by decide) (by decide) (fun hc => absurd hc (by decide)) (fun _ => ?_)
  show Go p e below s n0 _ _ _ (T0.setTop (mkF m 11 #[.val (.ref a1), .val (.int (3 : Int32)), .val (.int (2 : Int32)), .val (.int (1 : Int32)), .val (.int (1 : Int32))] []))
  refine Go.st (fun _ => XS.iload X0.here C.hx rfl (hb C.hby d4_11) rfl) ?_
  show Go p e below s n0 _ _ _ (T0.setTop (mkF m 13 #[.val (.ref a1), .val (.int (3 : Int32)), .val (.int (2 : Int32)), .val (.int (1 : Int32)), .val (.int (1 : Int32))] [(.int (1 : Int32))]))
  refine Go.if_eq C X0 (pc' := 30) d4_13 (by decide) (by decide) (fun hc => absurd hc (by decide)) (fun _ => ?_)
  show Go p e below s n0 _ _ _ (T0.setTop (mkF m 16 #[.val (.ref a1), .val (.int (3 : Int32)), .val (.int (2 : Int32)), .val (.int (1 : Int32)), .val (.int (1 : Int32))] []))
  refine Go.st (fun _ => XS.aloadN X0.here C.hx rfl (hb C.hby d4_16) rfl rfl) ?_
  show Go p e below s n0 _ _ _ (T0.setTop (mkF m 17 #[.val (.ref a1), .val (.int (3 : Int32)), .val (.int (2 : Int32)), .val (.int (1 : Int32)), .val (.int (1 : Int32))] [(.ref a1)]))
  refine Go.st (fun _ => XS.iconst X0.here C.hx rfl (hb C.hby d4_17)) ?_
  show Go p e below s n0 _ _ _ (T0.setTop (mkF m 18 #[.val (.ref a1), .val (.int (3 : Int32)), .val (.int (2 : Int32)), .val (.int (1 : Int32)), .val (.int (1 : Int32))] [(.int (0 : Int32)), (.ref a1)]))
  refine Go.laload C X0 A1 (by decide) (getL (i := 0) hs (by decide)) d4_18 ?_
  show Go p e below s n0 _ _ _ (T0.setTop (mkF m 19 #[.val (.ref a1), .val (.int (3 : Int32)), .val (.int (2 : Int32)), .val (.int (1 : Int32)), .val (.int (1 : Int32))] [(.long (el sl 0))]))
  refine Go.st (fun _ => XS.aloadN X0.here C.hx rfl (hb C.hby d4_19) rfl rfl) ?_
  show Go p e below s n0 _ _ _ (T0.setTop (mkF m 20 #[.val (.ref a1), .val (.int (3 : Int32)), .val (.int (2 : Int32)), .val (.int (1 : Int32)), .val (.int (1 : Int32))] [(.ref a1), (.long (el sl 0))]))
  refine Go.st (fun _ => XS.iloadN X0.here C.hx rfl (hb C.hby d4_20) rfl) ?_
  show Go p e below s n0 _ _ _ (T0.setTop (mkF m 21 #[.val (.ref a1), .val (.int (3 : Int32)), .val (.int (2 : Int32)), .val (.int (1 : Int32)), .val (.int (1 : Int32))] [(.int (1 : Int32)), (.ref a1), (.long (el sl 0))]))
  refine Go.laload C X0 A1 (by decide) (getL (i := 1) hs (by decide)) d4_21 ?_
  show Go p e below s n0 _ _ _ (T0.setTop (mkF m 22 #[.val (.ref a1), .val (.int (3 : Int32)), .val (.int (2 : Int32)), .val (.int (1 : Int32)), .val (.int (1 : Int32))] [(.long (el sl 1)), (.long (el sl 0))]))
  refine Go.st (fun _ => XS.lcmp X0.here C.hx rfl (hb C.hby d4_22) rfl) ?_
  show Go p e below s n0 _ _ _ (T0.setTop (mkF m 23 #[.val (.ref a1), .val (.int (3 : Int32)), .val (.int (2 : Int32)), .val (.int (1 : Int32)), .val (.int (1 : Int32))] [(.int (lcmpW (el sl 0) (el sl 1)))]))
  refine Go.lif_ne C X0 (pc' := 30) d4_23 (by decide) (by decide) (fun hc23_136 => ?_) (fun hc23_136 => ?_)
  · show Go p e below s n0 _ _ _ (T0.setTop (mkF m 30 #[.val (.ref a1), .val (.int (3 : Int32)), .val (.int (2 : Int32)), .val (.int (1 : Int32)), .val (.int (1 : Int32))] []))
    refine Go.st (fun _ => XS.iconst X0.here C.hx rfl (hb C.hby d4_30)) ?_
    show Go p e below s n0 _ _ _ (T0.setTop (mkF m 31 #[.val (.ref a1), .val (.int (3 : Int32)), .val (.int (2 : Int32)), .val (.int (1 : Int32)), .val (.int (1 : Int32))] [(.int (0 : Int32))]))
    refine Go.st (fun _ => XS.istore X0.here C.hx rfl (hb C.hby d4_31) rfl (l' := #[.val (.ref a1), .val (.int (3 : Int32)), .val (.int (2 : Int32)), .val (.int (1 : Int32)), .val (.int (0 : Int32))]) rfl) ?_
    show Go p e below s n0 _ _ _ (T0.setTop (mkF m 33 #[.val (.ref a1), .val (.int (3 : Int32)), .val (.int (2 : Int32)), .val (.int (1 : Int32)), .val (.int (0 : Int32))] []))
    refine Go.st (fun _ => XS.iloadN X0.here C.hx rfl (hb C.hby d4_33) rfl) ?_
    show Go p e below s n0 _ _ _ (T0.setTop (mkF m 34 #[.val (.ref a1), .val (.int (3 : Int32)), .val (.int (2 : Int32)), .val (.int (1 : Int32)), .val (.int (0 : Int32))] [(.int (2 : Int32))]))
    refine Go.st (fun _ => XS.iconst X0.here C.hx rfl (hb C.hby d4_34)) ?_
    show Go p e below s n0 _ _ _ (T0.setTop (mkF m 35 #[.val (.ref a1), .val (.int (3 : Int32)), .val (.int (2 : Int32)), .val (.int (1 : Int32)), .val (.int (0 : Int32))] [(.int (1 : Int32)), (.int (2 : Int32))]))
    refine Go.icmp_le C X0 (pc' := 62) d4_35 (by decide) (by decide) (fun hc => absurd hc (by decide)) (fun _ => ?_)
    show Go p e below s n0 _ _ _ (T0.setTop (mkF m 38 #[.val (.ref a1), .val (.int (3 : Int32)), .val (.int (2 : Int32)), .val (.int (1 : Int32)), .val (.int (0 : Int32))] []))
    refine Go.st (fun _ => XS.iload X0.here C.hx rfl (hb C.hby d4_38) rfl) ?_
    show Go p e below s n0 _ _ _ (T0.setTop (mkF m 40 #[.val (.ref a1), .val (.int (3 : Int32)), .val (.int (2 : Int32)), .val (.int (1 : Int32)), .val (.int (0 : Int32))] [(.int (0 : Int32))]))
    refine Go.if_eq C X0 (pc' := 59) d4_40 (by decide) (by decide) (fun _ => ?_) (fun hc => absurd hc (by decide))
    show Go p e below s n0 _ _ _ (T0.setTop (mkF m 59 #[.val (.ref a1), .val (.int (3 : Int32)), .val (.int (2 : Int32)), .val (.int (1 : Int32)), .val (.int (0 : Int32))] []))
    refine Go.st (fun _ => XS.iconst X0.here C.hx rfl (hb C.hby d4_59)) ?_
    show Go p e below s n0 _ _ _ (T0.setTop (mkF m 60 #[.val (.ref a1), .val (.int (3 : Int32)), .val (.int (2 : Int32)), .val (.int (1 : Int32)), .val (.int (0 : Int32))] [(.int (0 : Int32))]))
    refine Go.st (fun _ => XS.istore X0.here C.hx rfl (hb C.hby d4_60) rfl (l' := #[.val (.ref a1), .val (.int (3 : Int32)), .val (.int (2 : Int32)), .val (.int (1 : Int32)), .val (.int (0 : Int32))]) rfl) ?_
    show Go p e below s n0 _ _ _ (T0.setTop (mkF m 62 #[.val (.ref a1), .val (.int (3 : Int32)), .val (.int (2 : Int32)), .val (.int (1 : Int32)), .val (.int (0 : Int32))] []))
    refine Go.st (fun _ => XS.iloadN X0.here C.hx rfl (hb C.hby d4_62) rfl) ?_
    show Go p e below s n0 _ _ _ (T0.setTop (mkF m 63 #[.val (.ref a1), .val (.int (3 : Int32)), .val (.int (2 : Int32)), .val (.int (1 : Int32)), .val (.int (0 : Int32))] [(.int (2 : Int32))]))
    refine Go.st (fun _ => XS.iconst X0.here C.hx rfl (hb C.hby d4_63)) ?_
    show Go p e below s n0 _ _ _ (T0.setTop (mkF m 64 #[.val (.ref a1), .val (.int (3 : Int32)), .val (.int (2 : Int32)), .val (.int (1 : Int32)), .val (.int (0 : Int32))] [(.int (2 : Int32)), (.int (2 : Int32))]))
    refine Go.icmp_le C X0 (pc' := 91) d4_64 (by decide) (by decide) (fun _ => ?_) (fun hc => absurd hc (by decide))
    show Go p e below s n0 _ _ _ (T0.setTop (mkF m 91 #[.val (.ref a1), .val (.int (3 : Int32)), .val (.int (2 : Int32)), .val (.int (1 : Int32)), .val (.int (0 : Int32))] []))
    refine Go.st (fun _ => XS.iloadN X0.here C.hx rfl (hb C.hby d4_91) rfl) ?_
    show Go p e below s n0 _ _ _ (T0.setTop (mkF m 92 #[.val (.ref a1), .val (.int (3 : Int32)), .val (.int (2 : Int32)), .val (.int (1 : Int32)), .val (.int (0 : Int32))] [(.int (2 : Int32))]))
    refine Go.st (fun _ => XS.iconst X0.here C.hx rfl (hb C.hby d4_92)) ?_
    show Go p e below s n0 _ _ _ (T0.setTop (mkF m 93 #[.val (.ref a1), .val (.int (3 : Int32)), .val (.int (2 : Int32)), .val (.int (1 : Int32)), .val (.int (0 : Int32))] [(.int (3 : Int32)), (.int (2 : Int32))]))
    refine Go.icmp_le C X0 (pc' := 120) d4_93 (by decide) (by decide) (fun _ => ?_) (fun hc => absurd hc (by decide))
    show Go p e below s n0 _ _ _ (T0.setTop (mkF m 120 #[.val (.ref a1), .val (.int (3 : Int32)), .val (.int (2 : Int32)), .val (.int (1 : Int32)), .val (.int (0 : Int32))] []))
    refine Go.st (fun _ => XS.iloadN X0.here C.hx rfl (hb C.hby d4_120) rfl) ?_
    show Go p e below s n0 _ _ _ (T0.setTop (mkF m 121 #[.val (.ref a1), .val (.int (3 : Int32)), .val (.int (2 : Int32)), .val (.int (1 : Int32)), .val (.int (0 : Int32))] [(.int (2 : Int32))]))
    refine Go.st (fun _ => XS.iconst X0.here C.hx rfl (hb C.hby d4_121)) ?_
    show Go p e below s n0 _ _ _ (T0.setTop (mkF m 122 #[.val (.ref a1), .val (.int (3 : Int32)), .val (.int (2 : Int32)), .val (.int (1 : Int32)), .val (.int (0 : Int32))] [(.int (4 : Int32)), (.int (2 : Int32))]))
    refine Go.icmp_le C X0 (pc' := 149) d4_122 (by decide) (by decide) (fun _ => ?_) (fun hc => absurd hc (by decide))
    show Go p e below s n0 _ _ _ (T0.setTop (mkF m 149 #[.val (.ref a1), .val (.int (3 : Int32)), .val (.int (2 : Int32)), .val (.int (1 : Int32)), .val (.int (0 : Int32))] []))
    refine Go.st (fun _ => XS.iload X0.here C.hx rfl (hb C.hby d4_149) rfl) ?_
    show Go p e below s n0 _ _ _ (T0.setTop (mkF m 151 #[.val (.ref a1), .val (.int (3 : Int32)), .val (.int (2 : Int32)), .val (.int (1 : Int32)), .val (.int (0 : Int32))] [(.int (0 : Int32))]))
    exact Go.retZ C X0 (by decide) d4_151 ⟨by simp [b2i, sameE, Esl, List.range_succ, hc23_136], rfl⟩ (by decide) (by decide)
  · show Go p e below s n0 _ _ _ (T0.setTop (mkF m 26 #[.val (.ref a1), .val (.int (3 : Int32)), .val (.int (2 : Int32)), .val (.int (1 : Int32)), .val (.int (1 : Int32))] []))
    refine Go.st (fun _ => XS.iconst X0.here C.hx rfl (hb C.hby d4_26)) ?_
    show Go p e below s n0 _ _ _ (T0.setTop (mkF m 27 #[.val (.ref a1), .val (.int (3 : Int32)), .val (.int (2 : Int32)), .val (.int (1 : Int32)), .val (.int (1 : Int32))] [(.int (1 : Int32))]))
    refine Go.st (fun _ => XS.goto X0.here C.hx rfl (pc0 := 27) (pc' := 31) rfl (hb C.hby d4_27) (by decide) (by decide)) ?_
    show Go p e below s n0 _ _ _ (T0.setTop (mkF m 31 #[.val (.ref a1), .val (.int (3 : Int32)), .val (.int (2 : Int32)), .val (.int (1 : Int32)), .val (.int (1 : Int32))] [(.int (1 : Int32))]))
    refine Go.st (fun _ => XS.istore X0.here C.hx rfl (hb C.hby d4_31) rfl (l' := #[.val (.ref a1), .val (.int (3 : Int32)), .val (.int (2 : Int32)), .val (.int (1 : Int32)), .val (.int (1 : Int32))]) rfl) ?_
    show Go p e below s n0 _ _ _ (T0.setTop (mkF m 33 #[.val (.ref a1), .val (.int (3 : Int32)), .val (.int (2 : Int32)), .val (.int (1 : Int32)), .val (.int (1 : Int32))] []))
    refine Go.st (fun _ => XS.iloadN X0.here C.hx rfl (hb C.hby d4_33) rfl) ?_
    show Go p e below s n0 _ _ _ (T0.setTop (mkF m 34 #[.val (.ref a1), .val (.int (3 : Int32)), .val (.int (2 : Int32)), .val (.int (1 : Int32)), .val (.int (1 : Int32))] [(.int (2 : Int32))]))
    refine Go.st (fun _ => XS.iconst X0.here C.hx rfl (hb C.hby d4_34)) ?_
    show Go p e below s n0 _ _ _ (T0.setTop (mkF m 35 #[.val (.ref a1), .val (.int (3 : Int32)), .val (.int (2 : Int32)), .val (.int (1 : Int32)), .val (.int (1 : Int32))] [(.int (1 : Int32)), (.int (2 : Int32))]))
    refine Go.icmp_le C X0 (pc' := 62) d4_35 (by decide) (by decide) (fun hc => absurd hc (by decide)) (fun _ => ?_)
    show Go p e below s n0 _ _ _ (T0.setTop (mkF m 38 #[.val (.ref a1), .val (.int (3 : Int32)), .val (.int (2 : Int32)), .val (.int (1 : Int32)), .val (.int (1 : Int32))] []))
    refine Go.st (fun _ => XS.iload X0.here C.hx rfl (hb C.hby d4_38) rfl) ?_
    show Go p e below s n0 _ _ _ (T0.setTop (mkF m 40 #[.val (.ref a1), .val (.int (3 : Int32)), .val (.int (2 : Int32)), .val (.int (1 : Int32)), .val (.int (1 : Int32))] [(.int (1 : Int32))]))
    refine Go.if_eq C X0 (pc' := 59) d4_40 (by decide) (by decide) (fun hc => absurd hc (by decide)) (fun _ => ?_)
    show Go p e below s n0 _ _ _ (T0.setTop (mkF m 43 #[.val (.ref a1), .val (.int (3 : Int32)), .val (.int (2 : Int32)), .val (.int (1 : Int32)), .val (.int (1 : Int32))] []))
    refine Go.st (fun _ => XS.aloadN X0.here C.hx rfl (hb C.hby d4_43) rfl rfl) ?_
    show Go p e below s n0 _ _ _ (T0.setTop (mkF m 44 #[.val (.ref a1), .val (.int (3 : Int32)), .val (.int (2 : Int32)), .val (.int (1 : Int32)), .val (.int (1 : Int32))] [(.ref a1)]))
    refine Go.st (fun _ => XS.iconst X0.here C.hx rfl (hb C.hby d4_44)) ?_
    show Go p e below s n0 _ _ _ (T0.setTop (mkF m 45 #[.val (.ref a1), .val (.int (3 : Int32)), .val (.int (2 : Int32)), .val (.int (1 : Int32)), .val (.int (1 : Int32))] [(.int (1 : Int32)), (.ref a1)]))
    refine Go.laload C X0 A1 (by decide) (getL (i := 1) hs (by decide)) d4_45 ?_
    show Go p e below s n0 _ _ _ (T0.setTop (mkF m 46 #[.val (.ref a1), .val (.int (3 : Int32)), .val (.int (2 : Int32)), .val (.int (1 : Int32)), .val (.int (1 : Int32))] [(.long (el sl 1))]))
    refine Go.st (fun _ => XS.aloadN X0.here C.hx rfl (hb C.hby d4_46) rfl rfl) ?_
    show Go p e below s n0 _ _ _ (T0.setTop (mkF m 47 #[.val (.ref a1), .val (.int (3 : Int32)), .val (.int (2 : Int32)), .val (.int (1 : Int32)), .val (.int (1 : Int32))] [(.ref a1), (.long (el sl 1))]))
    refine Go.st (fun _ => XS.iloadN X0.here C.hx rfl (hb C.hby d4_47) rfl) ?_
    show Go p e below s n0 _ _ _ (T0.setTop (mkF m 48 #[.val (.ref a1), .val (.int (3 : Int32)), .val (.int (2 : Int32)), .val (.int (1 : Int32)), .val (.int (1 : Int32))] [(.int (1 : Int32)), (.ref a1), (.long (el sl 1))]))
    refine Go.st (fun _ => XS.iconst X0.here C.hx rfl (hb C.hby d4_48)) ?_
    show Go p e below s n0 _ _ _ (T0.setTop (mkF m 49 #[.val (.ref a1), .val (.int (3 : Int32)), .val (.int (2 : Int32)), .val (.int (1 : Int32)), .val (.int (1 : Int32))] [(.int (1 : Int32)), (.int (1 : Int32)), (.ref a1), (.long (el sl 1))]))
    refine Go.st (fun _ => XS.iadd X0.here C.hx rfl (hb C.hby d4_49) rfl) ?_
    show Go p e below s n0 _ _ _ (T0.setTop (mkF m 50 #[.val (.ref a1), .val (.int (3 : Int32)), .val (.int (2 : Int32)), .val (.int (1 : Int32)), .val (.int (1 : Int32))] [(.int (2 : Int32)), (.ref a1), (.long (el sl 1))]))
    refine Go.laload C X0 A1 (by decide) (getL (i := 2) hs (by decide)) d4_50 ?_
    show Go p e below s n0 _ _ _ (T0.setTop (mkF m 51 #[.val (.ref a1), .val (.int (3 : Int32)), .val (.int (2 : Int32)), .val (.int (1 : Int32)), .val (.int (1 : Int32))] [(.long (el sl 2)), (.long (el sl 1))]))
    refine Go.st (fun _ => XS.lcmp X0.here C.hx rfl (hb C.hby d4_51) rfl) ?_
    show Go p e below s n0 _ _ _ (T0.setTop (mkF m 52 #[.val (.ref a1), .val (.int (3 : Int32)), .val (.int (2 : Int32)), .val (.int (1 : Int32)), .val (.int (1 : Int32))] [(.int (lcmpW (el sl 1) (el sl 2)))]))
    refine Go.lif_ne C X0 (pc' := 59) d4_52 (by decide) (by decide) (fun hc52_144 => ?_) (fun hc52_144 => ?_)
    · show Go p e below s n0 _ _ _ (T0.setTop (mkF m 59 #[.val (.ref a1), .val (.int (3 : Int32)), .val (.int (2 : Int32)), .val (.int (1 : Int32)), .val (.int (1 : Int32))] []))
      refine Go.st (fun _ => XS.iconst X0.here C.hx rfl (hb C.hby d4_59)) ?_
      show Go p e below s n0 _ _ _ (T0.setTop (mkF m 60 #[.val (.ref a1), .val (.int (3 : Int32)), .val (.int (2 : Int32)), .val (.int (1 : Int32)), .val (.int (1 : Int32))] [(.int (0 : Int32))]))
      refine Go.st (fun _ => XS.istore X0.here C.hx rfl (hb C.hby d4_60) rfl (l' := #[.val (.ref a1), .val (.int (3 : Int32)), .val (.int (2 : Int32)), .val (.int (1 : Int32)), .val (.int (0 : Int32))]) rfl) ?_
      show Go p e below s n0 _ _ _ (T0.setTop (mkF m 62 #[.val (.ref a1), .val (.int (3 : Int32)), .val (.int (2 : Int32)), .val (.int (1 : Int32)), .val (.int (0 : Int32))] []))
      refine Go.st (fun _ => XS.iloadN X0.here C.hx rfl (hb C.hby d4_62) rfl) ?_
      show Go p e below s n0 _ _ _ (T0.setTop (mkF m 63 #[.val (.ref a1), .val (.int (3 : Int32)), .val (.int (2 : Int32)), .val (.int (1 : Int32)), .val (.int (0 : Int32))] [(.int (2 : Int32))]))
      refine Go.st (fun _ => XS.iconst X0.here C.hx rfl (hb C.hby d4_63)) ?_
      show Go p e below s n0 _ _ _ (T0.setTop (mkF m 64 #[.val (.ref a1), .val (.int (3 : Int32)), .val (.int (2 : Int32)), .val (.int (1 : Int32)), .val (.int (0 : Int32))] [(.int (2 : Int32)), (.int (2 : Int32))]))
      refine Go.icmp_le C X0 (pc' := 91) d4_64 (by decide) (by decide) (fun _ => ?_) (fun hc => absurd hc (by decide))
      show Go p e below s n0 _ _ _ (T0.setTop (mkF m 91 #[.val (.ref a1), .val (.int (3 : Int32)), .val (.int (2 : Int32)), .val (.int (1 : Int32)), .val (.int (0 : Int32))] []))
      refine Go.st (fun _ => XS.iloadN X0.here C.hx rfl (hb C.hby d4_91) rfl) ?_
      show Go p e below s n0 _ _ _ (T0.setTop (mkF m 92 #[.val (.ref a1), .val (.int (3 : Int32)), .val (.int (2 : Int32)), .val (.int (1 : Int32)), .val (.int (0 : Int32))] [(.int (2 : Int32))]))
      refine Go.st (fun _ => XS.iconst X0.here C.hx rfl (hb C.hby d4_92)) ?_
      show Go p e below s n0 _ _ _ (T0.setTop (mkF m 93 #[.val (.ref a1), .val (.int (3 : Int32)), .val (.int (2 : Int32)), .val (.int (1 : Int32)), .val (.int (0 : Int32))] [(.int (3 : Int32)), (.int (2 : Int32))]))
      refine Go.icmp_le C X0 (pc' := 120) d4_93 (by decide) (by decide) (fun _ => ?_) (fun hc => absurd hc (by decide))
      show Go p e below s n0 _ _ _ (T0.setTop (mkF m 120 #[.val (.ref a1), .val (.int (3 : Int32)), .val (.int (2 : Int32)), .val (.int (1 : Int32)), .val (.int (0 : Int32))] []))
      refine Go.st (fun _ => XS.iloadN X0.here C.hx rfl (hb C.hby d4_120) rfl) ?_
      show Go p e below s n0 _ _ _ (T0.setTop (mkF m 121 #[.val (.ref a1), .val (.int (3 : Int32)), .val (.int (2 : Int32)), .val (.int (1 : Int32)), .val (.int (0 : Int32))] [(.int (2 : Int32))]))
      refine Go.st (fun _ => XS.iconst X0.here C.hx rfl (hb C.hby d4_121)) ?_
      show Go p e below s n0 _ _ _ (T0.setTop (mkF m 122 #[.val (.ref a1), .val (.int (3 : Int32)), .val (.int (2 : Int32)), .val (.int (1 : Int32)), .val (.int (0 : Int32))] [(.int (4 : Int32)), (.int (2 : Int32))]))
      refine Go.icmp_le C X0 (pc' := 149) d4_122 (by decide) (by decide) (fun _ => ?_) (fun hc => absurd hc (by decide))
      show Go p e below s n0 _ _ _ (T0.setTop (mkF m 149 #[.val (.ref a1), .val (.int (3 : Int32)), .val (.int (2 : Int32)), .val (.int (1 : Int32)), .val (.int (0 : Int32))] []))
      refine Go.st (fun _ => XS.iload X0.here C.hx rfl (hb C.hby d4_149) rfl) ?_
      show Go p e below s n0 _ _ _ (T0.setTop (mkF m 151 #[.val (.ref a1), .val (.int (3 : Int32)), .val (.int (2 : Int32)), .val (.int (1 : Int32)), .val (.int (0 : Int32))] [(.int (0 : Int32))]))
      exact Go.retZ C X0 (by decide) d4_151 ⟨by simp [b2i, sameE, Esl, List.range_succ, hc23_136, hc52_144], rfl⟩ (by decide) (by decide)
    · show Go p e below s n0 _ _ _ (T0.setTop (mkF m 55 #[.val (.ref a1), .val (.int (3 : Int32)), .val (.int (2 : Int32)), .val (.int (1 : Int32)), .val (.int (1 : Int32))] []))
      refine Go.st (fun _ => XS.iconst X0.here C.hx rfl (hb C.hby d4_55)) ?_
      show Go p e below s n0 _ _ _ (T0.setTop (mkF m 56 #[.val (.ref a1), .val (.int (3 : Int32)), .val (.int (2 : Int32)), .val (.int (1 : Int32)), .val (.int (1 : Int32))] [(.int (1 : Int32))]))
      refine Go.st (fun _ => XS.goto X0.here C.hx rfl (pc0 := 56) (pc' := 60) rfl (hb C.hby d4_56) (by decide) (by decide)) ?_
      show Go p e below s n0 _ _ _ (T0.setTop (mkF m 60 #[.val (.ref a1), .val (.int (3 : Int32)), .val (.int (2 : Int32)), .val (.int (1 : Int32)), .val (.int (1 : Int32))] [(.int (1 : Int32))]))
      refine Go.st (fun _ => XS.istore X0.here C.hx rfl (hb C.hby d4_60) rfl (l' := #[.val (.ref a1), .val (.int (3 : Int32)), .val (.int (2 : Int32)), .val (.int (1 : Int32)), .val (.int (1 : Int32))]) rfl) ?_
      show Go p e below s n0 _ _ _ (T0.setTop (mkF m 62 #[.val (.ref a1), .val (.int (3 : Int32)), .val (.int (2 : Int32)), .val (.int (1 : Int32)), .val (.int (1 : Int32))] []))
      refine Go.st (fun _ => XS.iloadN X0.here C.hx rfl (hb C.hby d4_62) rfl) ?_
      show Go p e below s n0 _ _ _ (T0.setTop (mkF m 63 #[.val (.ref a1), .val (.int (3 : Int32)), .val (.int (2 : Int32)), .val (.int (1 : Int32)), .val (.int (1 : Int32))] [(.int (2 : Int32))]))
      refine Go.st (fun _ => XS.iconst X0.here C.hx rfl (hb C.hby d4_63)) ?_
      show Go p e below s n0 _ _ _ (T0.setTop (mkF m 64 #[.val (.ref a1), .val (.int (3 : Int32)), .val (.int (2 : Int32)), .val (.int (1 : Int32)), .val (.int (1 : Int32))] [(.int (2 : Int32)), (.int (2 : Int32))]))
      refine Go.icmp_le C X0 (pc' := 91) d4_64 (by decide) (by decide) (fun _ => ?_) (fun hc => absurd hc (by decide))
      show Go p e below s n0 _ _ _ (T0.setTop (mkF m 91 #[.val (.ref a1), .val (.int (3 : Int32)), .val (.int (2 : Int32)), .val (.int (1 : Int32)), .val (.int (1 : Int32))] []))
      refine Go.st (fun _ => XS.iloadN X0.here C.hx rfl (hb C.hby d4_91) rfl) ?_
      show Go p e below s n0 _ _ _ (T0.setTop (mkF m 92 #[.val (.ref a1), .val (.int (3 : Int32)), .val (.int (2 : Int32)), .val (.int (1 : Int32)), .val (.int (1 : Int32))] [(.int (2 : Int32))]))
      refine Go.st (fun _ => XS.iconst X0.here C.hx rfl (hb C.hby d4_92)) ?_
      show Go p e below s n0 _ _ _ (T0.setTop (mkF m 93 #[.val (.ref a1), .val (.int (3 : Int32)), .val (.int (2 : Int32)), .val (.int (1 : Int32)), .val (.int (1 : Int32))] [(.int (3 : Int32)), (.int (2 : Int32))]))
      refine Go.icmp_le C X0 (pc' := 120) d4_93 (by decide) (by decide) (fun _ => ?_) (fun hc => absurd hc (by decide))
      show Go p e below s n0 _ _ _ (T0.setTop (mkF m 120 #[.val (.ref a1), .val (.int (3 : Int32)), .val (.int (2 : Int32)), .val (.int (1 : Int32)), .val (.int (1 : Int32))] []))
      refine Go.st (fun _ => XS.iloadN X0.here C.hx rfl (hb C.hby d4_120) rfl) ?_
      show Go p e below s n0 _ _ _ (T0.setTop (mkF m 121 #[.val (.ref a1), .val (.int (3 : Int32)), .val (.int (2 : Int32)), .val (.int (1 : Int32)), .val (.int (1 : Int32))] [(.int (2 : Int32))]))
      refine Go.st (fun _ => XS.iconst X0.here C.hx rfl (hb C.hby d4_121)) ?_
      show Go p e below s n0 _ _ _ (T0.setTop (mkF m 122 #[.val (.ref a1), .val (.int (3 : Int32)), .val (.int (2 : Int32)), .val (.int (1 : Int32)), .val (.int (1 : Int32))] [(.int (4 : Int32)), (.int (2 : Int32))]))
      refine Go.icmp_le C X0 (pc' := 149) d4_122 (by decide) (by decide) (fun _ => ?_) (fun hc => absurd hc (by decide))
      show Go p e below s n0 _ _ _ (T0.setTop (mkF m 149 #[.val (.ref a1), .val (.int (3 : Int32)), .val (.int (2 : Int32)), .val (.int (1 : Int32)), .val (.int (1 : Int32))] []))
      refine Go.st (fun _ => XS.iload X0.here C.hx rfl (hb C.hby d4_149) rfl) ?_
      show Go p e below s n0 _ _ _ (T0.setTop (mkF m 151 #[.val (.ref a1), .val (.int (3 : Int32)), .val (.int (2 : Int32)), .val (.int (1 : Int32)), .val (.int (1 : Int32))] [(.int (1 : Int32))]))
      exact Go.retZ C X0 (by decide) d4_151 ⟨by simp [b2i, sameE, Esl, List.range_succ, hc23_136, hc52_144], rfl⟩ (by decide) (by decide)
set_option maxRecDepth 65536 in
set_option maxHeartbeats 40000000 in
theorem con_same_4_1 (l : Launch) (Z : State) (a0 : Array Value) (hw : ∀ d ∈ tables_1, d.before a0 Z = true) (n0 : Nat) (h0 : Heap) (Z0 : n0 ≤ h0.size) (a1 : Addr) (sl : List Int64) (hs : sl.length = 6) (A1 : AR Z h0 a1 .long (sl.map Value.long)) :
    Con l Z (⟨"com/example/orderly_ring/orderlyring/model/SequencesExtendBordersPinLaw", "same", "([JII)Z"⟩ : MethodName) method_3_code 5 (some .boolean) [] ({ frames := 0, cells := 0, slots := 0, locals := 0 } : Room) n0 #[(.ref a1), (.int (4 : Int32)), (.int (1 : Int32))] h0 (fun v h => v = some (.int (b2i (sameE (Esl sl) 4 1))) ∧ h = h0) := by
  refine Con.mk pf_4 hw Z0 ?_
  intro p e s m below meth c T0 C X0
  have ef : entryFrame m #[(.ref a1), (.int (4 : Int32)), (.int (1 : Int32))] 5 = mkF m 0 #[.val (.ref a1), .val (.int (4 : Int32)), .val (.int (1 : Int32)), .unset, .unset] [] := by first | (simp [entryFrame, mkF, argsToLocals, Value.category]; done) | rfl
  rw [ef]
  show Go p e below s n0 _ _ _ (T0.setTop (mkF m 0 #[.val (.ref a1), .val (.int (4 : Int32)), .val (.int (1 : Int32)), .unset, .unset] []))
  refine Go.st (fun _ => XS.iloadN X0.here C.hx rfl (hb C.hby d4_0) rfl) ?_
  show Go p e below s n0 _ _ _ (T0.setTop (mkF m 1 #[.val (.ref a1), .val (.int (4 : Int32)), .val (.int (1 : Int32)), .unset, .unset] [(.int (4 : Int32))]))
  refine Go.st (fun _ => XS.iloadN X0.here C.hx rfl (hb C.hby d4_1) rfl) ?_
  show Go p e below s n0 _ _ _ (T0.setTop (mkF m 2 #[.val (.ref a1), .val (.int (4 : Int32)), .val (.int (1 : Int32)), .unset, .unset] [(.int (1 : Int32)), (.int (4 : Int32))]))
  refine Go.st (fun _ => XS.isub X0.here C.hx rfl (hb C.hby d4_2) rfl) ?_
  show Go p e below s n0 _ _ _ (T0.setTop (mkF m 3 #[.val (.ref a1), .val (.int (4 : Int32)), .val (.int (1 : Int32)), .unset, .unset] [(.int (3 : Int32))]))
  refine Go.st (fun _ => XS.istoreN X0.here C.hx rfl (hb C.hby d4_3) rfl (l' := #[.val (.ref a1), .val (.int (4 : Int32)), .val (.int (1 : Int32)), .val (.int (3 : Int32)), .unset]) rfl) ?_
  show Go p e below s n0 _ _ _ (T0.setTop (mkF m 4 #[.val (.ref a1), .val (.int (4 : Int32)), .val (.int (1 : Int32)), .val (.int (3 : Int32)), .unset] []))
  refine Go.st (fun _ => XS.iconst X0.here C.hx rfl (hb C.hby d4_4)) ?_
  show Go p e below s n0 _ _ _ (T0.setTop (mkF m 5 #[.val (.ref a1), .val (.int (4 : Int32)), .val (.int (1 : Int32)), .val (.int (3 : Int32)), .unset] [(.int (1 : Int32))]))
  refine Go.st (fun _ => XS.istore X0.here C.hx rfl (hb C.hby d4_5) rfl (l' := #[.val (.ref a1), .val (.int (4 : Int32)), .val (.int (1 : Int32)), .val (.int (3 : Int32)), .val (.int (1 : Int32))]) rfl) ?_
  show Go p e below s n0 _ _ _ (T0.setTop (mkF m 7 #[.val (.ref a1), .val (.int (4 : Int32)), .val (.int (1 : Int32)), .val (.int (3 : Int32)), .val (.int (1 : Int32))] []))
  refine Go.st (fun _ => XS.iloadN X0.here C.hx rfl (hb C.hby d4_7) rfl) ?_
  show Go p e below s n0 _ _ _ (T0.setTop (mkF m 8 #[.val (.ref a1), .val (.int (4 : Int32)), .val (.int (1 : Int32)), .val (.int (3 : Int32)), .val (.int (1 : Int32))] [(.int (1 : Int32))]))
  refine Go.if_le C X0 (pc' := 33) d4_8 (by decide) (by decide) (fun hc => absurd hc (by decide)) (fun _ => ?_)
  show Go p e below s n0 _ _ _ (T0.setTop (mkF m 11 #[.val (.ref a1), .val (.int (4 : Int32)), .val (.int (1 : Int32)), .val (.int (3 : Int32)), .val (.int (1 : Int32))] []))
  refine Go.st (fun _ => XS.iload X0.here C.hx rfl (hb C.hby d4_11) rfl) ?_
  show Go p e below s n0 _ _ _ (T0.setTop (mkF m 13 #[.val (.ref a1), .val (.int (4 : Int32)), .val (.int (1 : Int32)), .val (.int (3 : Int32)), .val (.int (1 : Int32))] [(.int (1 : Int32))]))
  refine Go.if_eq C X0 (pc' := 30) d4_13 (by decide) (by decide) (fun hc => absurd hc (by decide)) (fun _ => ?_)
  show Go p e below s n0 _ _ _ (T0.setTop (mkF m 16 #[.val (.ref a1), .val (.int (4 : Int32)), .val (.int (1 : Int32)), .val (.int (3 : Int32)), .val (.int (1 : Int32))] []))
  refine Go.st (fun _ => XS.aloadN X0.here C.hx rfl (hb C.hby d4_16) rfl rfl) ?_
  show Go p e below s n0 _ _ _ (T0.setTop (mkF m 17 #[.val (.ref a1), .val (.int (4 : Int32)), .val (.int (1 : Int32)), .val (.int (3 : Int32)), .val (.int (1 : Int32))] [(.ref a1)]))
  refine Go.st (fun _ => XS.iconst X0.here C.hx rfl (hb C.hby d4_17)) ?_
  show Go p e below s n0 _ _ _ (T0.setTop (mkF m 18 #[.val (.ref a1), .val (.int (4 : Int32)), .val (.int (1 : Int32)), .val (.int (3 : Int32)), .val (.int (1 : Int32))] [(.int (0 : Int32)), (.ref a1)]))
  refine Go.laload C X0 A1 (by decide) (getL (i := 0) hs (by decide)) d4_18 ?_
  show Go p e below s n0 _ _ _ (T0.setTop (mkF m 19 #[.val (.ref a1), .val (.int (4 : Int32)), .val (.int (1 : Int32)), .val (.int (3 : Int32)), .val (.int (1 : Int32))] [(.long (el sl 0))]))
  refine Go.st (fun _ => XS.aloadN X0.here C.hx rfl (hb C.hby d4_19) rfl rfl) ?_
  show Go p e below s n0 _ _ _ (T0.setTop (mkF m 20 #[.val (.ref a1), .val (.int (4 : Int32)), .val (.int (1 : Int32)), .val (.int (3 : Int32)), .val (.int (1 : Int32))] [(.ref a1), (.long (el sl 0))]))
  refine Go.st (fun _ => XS.iloadN X0.here C.hx rfl (hb C.hby d4_20) rfl) ?_
  show Go p e below s n0 _ _ _ (T0.setTop (mkF m 21 #[.val (.ref a1), .val (.int (4 : Int32)), .val (.int (1 : Int32)), .val (.int (3 : Int32)), .val (.int (1 : Int32))] [(.int (3 : Int32)), (.ref a1), (.long (el sl 0))]))
  refine Go.laload C X0 A1 (by decide) (getL (i := 3) hs (by decide)) d4_21 ?_
  show Go p e below s n0 _ _ _ (T0.setTop (mkF m 22 #[.val (.ref a1), .val (.int (4 : Int32)), .val (.int (1 : Int32)), .val (.int (3 : Int32)), .val (.int (1 : Int32))] [(.long (el sl 3)), (.long (el sl 0))]))
  refine Go.st (fun _ => XS.lcmp X0.here C.hx rfl (hb C.hby d4_22) rfl) ?_
  show Go p e below s n0 _ _ _ (T0.setTop (mkF m 23 #[.val (.ref a1), .val (.int (4 : Int32)), .val (.int (1 : Int32)), .val (.int (3 : Int32)), .val (.int (1 : Int32))] [(.int (lcmpW (el sl 0) (el sl 3)))]))
  refine Go.lif_ne C X0 (pc' := 30) d4_23 (by decide) (by decide) (fun hc23_153 => ?_) (fun hc23_153 => ?_)
  · show Go p e below s n0 _ _ _ (T0.setTop (mkF m 30 #[.val (.ref a1), .val (.int (4 : Int32)), .val (.int (1 : Int32)), .val (.int (3 : Int32)), .val (.int (1 : Int32))] []))
    refine Go.st (fun _ => XS.iconst X0.here C.hx rfl (hb C.hby d4_30)) ?_
    show Go p e below s n0 _ _ _ (T0.setTop (mkF m 31 #[.val (.ref a1), .val (.int (4 : Int32)), .val (.int (1 : Int32)), .val (.int (3 : Int32)), .val (.int (1 : Int32))] [(.int (0 : Int32))]))
    refine Go.st (fun _ => XS.istore X0.here C.hx rfl (hb C.hby d4_31) rfl (l' := #[.val (.ref a1), .val (.int (4 : Int32)), .val (.int (1 : Int32)), .val (.int (3 : Int32)), .val (.int (0 : Int32))]) rfl) ?_
    show Go p e below s n0 _ _ _ (T0.setTop (mkF m 33 #[.val (.ref a1), .val (.int (4 : Int32)), .val (.int (1 : Int32)), .val (.int (3 : Int32)), .val (.int (0 : Int32))] []))
    refine Go.st (fun _ => XS.iloadN X0.here C.hx rfl (hb C.hby d4_33) rfl) ?_
    show Go p e below s n0 _ _ _ (T0.setTop (mkF m 34 #[.val (.ref a1), .val (.int (4 : Int32)), .val (.int (1 : Int32)), .val (.int (3 : Int32)), .val (.int (0 : Int32))] [(.int (1 : Int32))]))
    refine Go.st (fun _ => XS.iconst X0.here C.hx rfl (hb C.hby d4_34)) ?_
    show Go p e below s n0 _ _ _ (T0.setTop (mkF m 35 #[.val (.ref a1), .val (.int (4 : Int32)), .val (.int (1 : Int32)), .val (.int (3 : Int32)), .val (.int (0 : Int32))] [(.int (1 : Int32)), (.int (1 : Int32))]))
    refine Go.icmp_le C X0 (pc' := 62) d4_35 (by decide) (by decide) (fun _ => ?_) (fun hc => absurd hc (by decide))
    show Go p e below s n0 _ _ _ (T0.setTop (mkF m 62 #[.val (.ref a1), .val (.int (4 : Int32)), .val (.int (1 : Int32)), .val (.int (3 : Int32)), .val (.int (0 : Int32))] []))
    refine Go.st (fun _ => XS.iloadN X0.here C.hx rfl (hb C.hby d4_62) rfl) ?_
    show Go p e below s n0 _ _ _ (T0.setTop (mkF m 63 #[.val (.ref a1), .val (.int (4 : Int32)), .val (.int (1 : Int32)), .val (.int (3 : Int32)), .val (.int (0 : Int32))] [(.int (1 : Int32))]))
    refine Go.st (fun _ => XS.iconst X0.here C.hx rfl (hb C.hby d4_63)) ?_
    show Go p e below s n0 _ _ _ (T0.setTop (mkF m 64 #[.val (.ref a1), .val (.int (4 : Int32)), .val (.int (1 : Int32)), .val (.int (3 : Int32)), .val (.int (0 : Int32))] [(.int (2 : Int32)), (.int (1 : Int32))]))
    refine Go.icmp_le C X0 (pc' := 91) d4_64 (by decide) (by decide) (fun _ => ?_) (fun hc => absurd hc (by decide))
    show Go p e below s n0 _ _ _ (T0.setTop (mkF m 91 #[.val (.ref a1), .val (.int (4 : Int32)), .val (.int (1 : Int32)), .val (.int (3 : Int32)), .val (.int (0 : Int32))] []))
    refine Go.st (fun _ => XS.iloadN X0.here C.hx rfl (hb C.hby d4_91) rfl) ?_
    show Go p e below s n0 _ _ _ (T0.setTop (mkF m 92 #[.val (.ref a1), .val (.int (4 : Int32)), .val (.int (1 : Int32)), .val (.int (3 : Int32)), .val (.int (0 : Int32))] [(.int (1 : Int32))]))
    refine Go.st (fun _ => XS.iconst X0.here C.hx rfl (hb C.hby d4_92)) ?_
    show Go p e below s n0 _ _ _ (T0.setTop (mkF m 93 #[.val (.ref a1), .val (.int (4 : Int32)), .val (.int (1 : Int32)), .val (.int (3 : Int32)), .val (.int (0 : Int32))] [(.int (3 : Int32)), (.int (1 : Int32))]))
    refine Go.icmp_le C X0 (pc' := 120) d4_93 (by decide) (by decide) (fun _ => ?_) (fun hc => absurd hc (by decide))
    show Go p e below s n0 _ _ _ (T0.setTop (mkF m 120 #[.val (.ref a1), .val (.int (4 : Int32)), .val (.int (1 : Int32)), .val (.int (3 : Int32)), .val (.int (0 : Int32))] []))
    refine Go.st (fun _ => XS.iloadN X0.here C.hx rfl (hb C.hby d4_120) rfl) ?_
    show Go p e below s n0 _ _ _ (T0.setTop (mkF m 121 #[.val (.ref a1), .val (.int (4 : Int32)), .val (.int (1 : Int32)), .val (.int (3 : Int32)), .val (.int (0 : Int32))] [(.int (1 : Int32))]))
    refine Go.st (fun _ => XS.iconst X0.here C.hx rfl (hb C.hby d4_121)) ?_
    show Go p e below s n0 _ _ _ (T0.setTop (mkF m 122 #[.val (.ref a1), .val (.int (4 : Int32)), .val (.int (1 : Int32)), .val (.int (3 : Int32)), .val (.int (0 : Int32))] [(.int (4 : Int32)), (.int (1 : Int32))]))
    refine Go.icmp_le C X0 (pc' := 149) d4_122 (by decide) (by decide) (fun _ => ?_) (fun hc => absurd hc (by decide))
    show Go p e below s n0 _ _ _ (T0.setTop (mkF m 149 #[.val (.ref a1), .val (.int (4 : Int32)), .val (.int (1 : Int32)), .val (.int (3 : Int32)), .val (.int (0 : Int32))] []))
    refine Go.st (fun _ => XS.iload X0.here C.hx rfl (hb C.hby d4_149) rfl) ?_
    show Go p e below s n0 _ _ _ (T0.setTop (mkF m 151 #[.val (.ref a1), .val (.int (4 : Int32)), .val (.int (1 : Int32)), .val (.int (3 : Int32)), .val (.int (0 : Int32))] [(.int (0 : Int32))]))
    exact Go.retZ C X0 (by decide) d4_151 ⟨by simp [b2i, sameE, Esl, List.range_succ, hc23_153], rfl⟩ (by decide) (by decide)
  · show Go p e below s n0 _ _ _ (T0.setTop (mkF m 26 #[.val (.ref a1), .val (.int (4 : Int32)), .val (.int (1 : Int32)), .val (.int (3 : Int32)), .val (.int (1 : Int32))] []))
    refine Go.st (fun _ => XS.iconst X0.here C.hx rfl (hb C.hby d4_26)) ?_
    show Go p e below s n0 _ _ _ (T0.setTop (mkF m 27 #[.val (.ref a1), .val (.int (4 : Int32)), .val (.int (1 : Int32)), .val (.int (3 : Int32)), .val (.int (1 : Int32))] [(.int (1 : Int32))]))
    refine Go.st (fun _ => XS.goto X0.here C.hx rfl (pc0 := 27) (pc' := 31) rfl (hb C.hby d4_27) (by decide) (by decide)) ?_
    show Go p e below s n0 _ _ _ (T0.setTop (mkF m 31 #[.val (.ref a1), .val (.int (4 : Int32)), .val (.int (1 : Int32)), .val (.int (3 : Int32)), .val (.int (1 : Int32))] [(.int (1 : Int32))]))
    refine Go.st (fun _ => XS.istore X0.here C.hx rfl (hb C.hby d4_31) rfl (l' := #[.val (.ref a1), .val (.int (4 : Int32)), .val (.int (1 : Int32)), .val (.int (3 : Int32)), .val (.int (1 : Int32))]) rfl) ?_
    show Go p e below s n0 _ _ _ (T0.setTop (mkF m 33 #[.val (.ref a1), .val (.int (4 : Int32)), .val (.int (1 : Int32)), .val (.int (3 : Int32)), .val (.int (1 : Int32))] []))
    refine Go.st (fun _ => XS.iloadN X0.here C.hx rfl (hb C.hby d4_33) rfl) ?_
    show Go p e below s n0 _ _ _ (T0.setTop (mkF m 34 #[.val (.ref a1), .val (.int (4 : Int32)), .val (.int (1 : Int32)), .val (.int (3 : Int32)), .val (.int (1 : Int32))] [(.int (1 : Int32))]))
    refine Go.st (fun _ => XS.iconst X0.here C.hx rfl (hb C.hby d4_34)) ?_
    show Go p e below s n0 _ _ _ (T0.setTop (mkF m 35 #[.val (.ref a1), .val (.int (4 : Int32)), .val (.int (1 : Int32)), .val (.int (3 : Int32)), .val (.int (1 : Int32))] [(.int (1 : Int32)), (.int (1 : Int32))]))
    refine Go.icmp_le C X0 (pc' := 62) d4_35 (by decide) (by decide) (fun _ => ?_) (fun hc => absurd hc (by decide))
    show Go p e below s n0 _ _ _ (T0.setTop (mkF m 62 #[.val (.ref a1), .val (.int (4 : Int32)), .val (.int (1 : Int32)), .val (.int (3 : Int32)), .val (.int (1 : Int32))] []))
    refine Go.st (fun _ => XS.iloadN X0.here C.hx rfl (hb C.hby d4_62) rfl) ?_
    show Go p e below s n0 _ _ _ (T0.setTop (mkF m 63 #[.val (.ref a1), .val (.int (4 : Int32)), .val (.int (1 : Int32)), .val (.int (3 : Int32)), .val (.int (1 : Int32))] [(.int (1 : Int32))]))
    refine Go.st (fun _ => XS.iconst X0.here C.hx rfl (hb C.hby d4_63)) ?_
    show Go p e below s n0 _ _ _ (T0.setTop (mkF m 64 #[.val (.ref a1), .val (.int (4 : Int32)), .val (.int (1 : Int32)), .val (.int (3 : Int32)), .val (.int (1 : Int32))] [(.int (2 : Int32)), (.int (1 : Int32))]))
    refine Go.icmp_le C X0 (pc' := 91) d4_64 (by decide) (by decide) (fun _ => ?_) (fun hc => absurd hc (by decide))
    show Go p e below s n0 _ _ _ (T0.setTop (mkF m 91 #[.val (.ref a1), .val (.int (4 : Int32)), .val (.int (1 : Int32)), .val (.int (3 : Int32)), .val (.int (1 : Int32))] []))
    refine Go.st (fun _ => XS.iloadN X0.here C.hx rfl (hb C.hby d4_91) rfl) ?_
    show Go p e below s n0 _ _ _ (T0.setTop (mkF m 92 #[.val (.ref a1), .val (.int (4 : Int32)), .val (.int (1 : Int32)), .val (.int (3 : Int32)), .val (.int (1 : Int32))] [(.int (1 : Int32))]))
    refine Go.st (fun _ => XS.iconst X0.here C.hx rfl (hb C.hby d4_92)) ?_
    show Go p e below s n0 _ _ _ (T0.setTop (mkF m 93 #[.val (.ref a1), .val (.int (4 : Int32)), .val (.int (1 : Int32)), .val (.int (3 : Int32)), .val (.int (1 : Int32))] [(.int (3 : Int32)), (.int (1 : Int32))]))
    refine Go.icmp_le C X0 (pc' := 120) d4_93 (by decide) (by decide) (fun _ => ?_) (fun hc => absurd hc (by decide))
    show Go p e below s n0 _ _ _ (T0.setTop (mkF m 120 #[.val (.ref a1), .val (.int (4 : Int32)), .val (.int (1 : Int32)), .val (.int (3 : Int32)), .val (.int (1 : Int32))] []))
    refine Go.st (fun _ => XS.iloadN X0.here C.hx rfl (hb C.hby d4_120) rfl) ?_
    show Go p e below s n0 _ _ _ (T0.setTop (mkF m 121 #[.val (.ref a1), .val (.int (4 : Int32)), .val (.int (1 : Int32)), .val (.int (3 : Int32)), .val (.int (1 : Int32))] [(.int (1 : Int32))]))
    refine Go.st (fun _ => XS.iconst X0.here C.hx rfl (hb C.hby d4_121)) ?_
    show Go p e below s n0 _ _ _ (T0.setTop (mkF m 122 #[.val (.ref a1), .val (.int (4 : Int32)), .val (.int (1 : Int32)), .val (.int (3 : Int32)), .val (.int (1 : Int32))] [(.int (4 : Int32)), (.int (1 : Int32))]))
    refine Go.icmp_le C X0 (pc' := 149) d4_122 (by decide) (by decide) (fun _ => ?_) (fun hc => absurd hc (by decide))
    show Go p e below s n0 _ _ _ (T0.setTop (mkF m 149 #[.val (.ref a1), .val (.int (4 : Int32)), .val (.int (1 : Int32)), .val (.int (3 : Int32)), .val (.int (1 : Int32))] []))
    refine Go.st (fun _ => XS.iload X0.here C.hx rfl (hb C.hby d4_149) rfl) ?_
    show Go p e below s n0 _ _ _ (T0.setTop (mkF m 151 #[.val (.ref a1), .val (.int (4 : Int32)), .val (.int (1 : Int32)), .val (.int (3 : Int32)), .val (.int (1 : Int32))] [(.int (1 : Int32))]))
    exact Go.retZ C X0 (by decide) d4_151 ⟨by simp [b2i, sameE, Esl, List.range_succ, hc23_153], rfl⟩ (by decide) (by decide)
set_option maxRecDepth 65536 in
set_option maxHeartbeats 40000000 in
theorem con_same_4_2 (l : Launch) (Z : State) (a0 : Array Value) (hw : ∀ d ∈ tables_1, d.before a0 Z = true) (n0 : Nat) (h0 : Heap) (Z0 : n0 ≤ h0.size) (a1 : Addr) (sl : List Int64) (hs : sl.length = 6) (A1 : AR Z h0 a1 .long (sl.map Value.long)) :
    Con l Z (⟨"com/example/orderly_ring/orderlyring/model/SequencesExtendBordersPinLaw", "same", "([JII)Z"⟩ : MethodName) method_3_code 5 (some .boolean) [] ({ frames := 0, cells := 0, slots := 0, locals := 0 } : Room) n0 #[(.ref a1), (.int (4 : Int32)), (.int (2 : Int32))] h0 (fun v h => v = some (.int (b2i (sameE (Esl sl) 4 2))) ∧ h = h0) := by
  refine Con.mk pf_4 hw Z0 ?_
  intro p e s m below meth c T0 C X0
  have ef : entryFrame m #[(.ref a1), (.int (4 : Int32)), (.int (2 : Int32))] 5 = mkF m 0 #[.val (.ref a1), .val (.int (4 : Int32)), .val (.int (2 : Int32)), .unset, .unset] [] := by first | (simp [entryFrame, mkF, argsToLocals, Value.category]; done) | rfl
  rw [ef]
  show Go p e below s n0 _ _ _ (T0.setTop (mkF m 0 #[.val (.ref a1), .val (.int (4 : Int32)), .val (.int (2 : Int32)), .unset, .unset] []))
  refine Go.st (fun _ => XS.iloadN X0.here C.hx rfl (hb C.hby d4_0) rfl) ?_
  show Go p e below s n0 _ _ _ (T0.setTop (mkF m 1 #[.val (.ref a1), .val (.int (4 : Int32)), .val (.int (2 : Int32)), .unset, .unset] [(.int (4 : Int32))]))
  refine Go.st (fun _ => XS.iloadN X0.here C.hx rfl (hb C.hby d4_1) rfl) ?_
  show Go p e below s n0 _ _ _ (T0.setTop (mkF m 2 #[.val (.ref a1), .val (.int (4 : Int32)), .val (.int (2 : Int32)), .unset, .unset] [(.int (2 : Int32)), (.int (4 : Int32))]))
  refine Go.st (fun _ => XS.isub X0.here C.hx rfl (hb C.hby d4_2) rfl) ?_
  show Go p e below s n0 _ _ _ (T0.setTop (mkF m 3 #[.val (.ref a1), .val (.int (4 : Int32)), .val (.int (2 : Int32)), .unset, .unset] [(.int (2 : Int32))]))
  refine Go.st (fun _ => XS.istoreN X0.here C.hx rfl (hb C.hby d4_3) rfl (l' := #[.val (.ref a1), .val (.int (4 : Int32)), .val (.int (2 : Int32)), .val (.int (2 : Int32)), .unset]) rfl) ?_
  show Go p e below s n0 _ _ _ (T0.setTop (mkF m 4 #[.val (.ref a1), .val (.int (4 : Int32)), .val (.int (2 : Int32)), .val (.int (2 : Int32)), .unset] []))
  refine Go.st (fun _ => XS.iconst X0.here C.hx rfl (hb C.hby d4_4)) ?_
  show Go p e below s n0 _ _ _ (T0.setTop (mkF m 5 #[.val (.ref a1), .val (.int (4 : Int32)), .val (.int (2 : Int32)), .val (.int (2 : Int32)), .unset] [(.int (1 : Int32))]))
  refine Go.st (fun _ => XS.istore X0.here C.hx rfl (hb C.hby d4_5) rfl (l' := #[.val (.ref a1), .val (.int (4 : Int32)), .val (.int (2 : Int32)), .val (.int (2 : Int32)), .val (.int (1 : Int32))]) rfl) ?_
  show Go p e below s n0 _ _ _ (T0.setTop (mkF m 7 #[.val (.ref a1), .val (.int (4 : Int32)), .val (.int (2 : Int32)), .val (.int (2 : Int32)), .val (.int (1 : Int32))] []))
  refine Go.st (fun _ => XS.iloadN X0.here C.hx rfl (hb C.hby d4_7) rfl) ?_
  show Go p e below s n0 _ _ _ (T0.setTop (mkF m 8 #[.val (.ref a1), .val (.int (4 : Int32)), .val (.int (2 : Int32)), .val (.int (2 : Int32)), .val (.int (1 : Int32))] [(.int (2 : Int32))]))
  refine Go.if_le C X0 (pc' := 33) d4_8 (by decide) (by decide) (fun hc => absurd hc (by decide)) (fun _ => ?_)
  show Go p e below s n0 _ _ _ (T0.setTop (mkF m 11 #[.val (.ref a1), .val (.int (4 : Int32)), .val (.int (2 : Int32)), .val (.int (2 : Int32)), .val (.int (1 : Int32))] []))
  refine Go.st (fun _ => XS.iload X0.here C.hx rfl (hb C.hby d4_11) rfl) ?_
  show Go p e below s n0 _ _ _ (T0.setTop (mkF m 13 #[.val (.ref a1), .val (.int (4 : Int32)), .val (.int (2 : Int32)), .val (.int (2 : Int32)), .val (.int (1 : Int32))] [(.int (1 : Int32))]))
  refine Go.if_eq C X0 (pc' := 30) d4_13 (by decide) (by decide) (fun hc => absurd hc (by decide)) (fun _ => ?_)
  show Go p e below s n0 _ _ _ (T0.setTop (mkF m 16 #[.val (.ref a1), .val (.int (4 : Int32)), .val (.int (2 : Int32)), .val (.int (2 : Int32)), .val (.int (1 : Int32))] []))
  refine Go.st (fun _ => XS.aloadN X0.here C.hx rfl (hb C.hby d4_16) rfl rfl) ?_
  show Go p e below s n0 _ _ _ (T0.setTop (mkF m 17 #[.val (.ref a1), .val (.int (4 : Int32)), .val (.int (2 : Int32)), .val (.int (2 : Int32)), .val (.int (1 : Int32))] [(.ref a1)]))
  refine Go.st (fun _ => XS.iconst X0.here C.hx rfl (hb C.hby d4_17)) ?_
  show Go p e below s n0 _ _ _ (T0.setTop (mkF m 18 #[.val (.ref a1), .val (.int (4 : Int32)), .val (.int (2 : Int32)), .val (.int (2 : Int32)), .val (.int (1 : Int32))] [(.int (0 : Int32)), (.ref a1)]))
  refine Go.laload C X0 A1 (by decide) (getL (i := 0) hs (by decide)) d4_18 ?_
  show Go p e below s n0 _ _ _ (T0.setTop (mkF m 19 #[.val (.ref a1), .val (.int (4 : Int32)), .val (.int (2 : Int32)), .val (.int (2 : Int32)), .val (.int (1 : Int32))] [(.long (el sl 0))]))
  refine Go.st (fun _ => XS.aloadN X0.here C.hx rfl (hb C.hby d4_19) rfl rfl) ?_
  show Go p e below s n0 _ _ _ (T0.setTop (mkF m 20 #[.val (.ref a1), .val (.int (4 : Int32)), .val (.int (2 : Int32)), .val (.int (2 : Int32)), .val (.int (1 : Int32))] [(.ref a1), (.long (el sl 0))]))
  refine Go.st (fun _ => XS.iloadN X0.here C.hx rfl (hb C.hby d4_20) rfl) ?_
  show Go p e below s n0 _ _ _ (T0.setTop (mkF m 21 #[.val (.ref a1), .val (.int (4 : Int32)), .val (.int (2 : Int32)), .val (.int (2 : Int32)), .val (.int (1 : Int32))] [(.int (2 : Int32)), (.ref a1), (.long (el sl 0))]))
  refine Go.laload C X0 A1 (by decide) (getL (i := 2) hs (by decide)) d4_21 ?_
  show Go p e below s n0 _ _ _ (T0.setTop (mkF m 22 #[.val (.ref a1), .val (.int (4 : Int32)), .val (.int (2 : Int32)), .val (.int (2 : Int32)), .val (.int (1 : Int32))] [(.long (el sl 2)), (.long (el sl 0))]))
  refine Go.st (fun _ => XS.lcmp X0.here C.hx rfl (hb C.hby d4_22) rfl) ?_
  show Go p e below s n0 _ _ _ (T0.setTop (mkF m 23 #[.val (.ref a1), .val (.int (4 : Int32)), .val (.int (2 : Int32)), .val (.int (2 : Int32)), .val (.int (1 : Int32))] [(.int (lcmpW (el sl 0) (el sl 2)))]))
  refine Go.lif_ne C X0 (pc' := 30) d4_23 (by decide) (by decide) (fun hc23_164 => ?_) (fun hc23_164 => ?_)
  · show Go p e below s n0 _ _ _ (T0.setTop (mkF m 30 #[.val (.ref a1), .val (.int (4 : Int32)), .val (.int (2 : Int32)), .val (.int (2 : Int32)), .val (.int (1 : Int32))] []))
    refine Go.st (fun _ => XS.iconst X0.here C.hx rfl (hb C.hby d4_30)) ?_
    show Go p e below s n0 _ _ _ (T0.setTop (mkF m 31 #[.val (.ref a1), .val (.int (4 : Int32)), .val (.int (2 : Int32)), .val (.int (2 : Int32)), .val (.int (1 : Int32))] [(.int (0 : Int32))]))
    refine Go.st (fun _ => XS.istore X0.here C.hx rfl (hb C.hby d4_31) rfl (l' := #[.val (.ref a1), .val (.int (4 : Int32)), .val (.int (2 : Int32)), .val (.int (2 : Int32)), .val (.int (0 : Int32))]) rfl) ?_
    show Go p e below s n0 _ _ _ (T0.setTop (mkF m 33 #[.val (.ref a1), .val (.int (4 : Int32)), .val (.int (2 : Int32)), .val (.int (2 : Int32)), .val (.int (0 : Int32))] []))
    refine Go.st (fun _ => XS.iloadN X0.here C.hx rfl (hb C.hby d4_33) rfl) ?_
    show Go p e below s n0 _ _ _ (T0.setTop (mkF m 34 #[.val (.ref a1), .val (.int (4 : Int32)), .val (.int (2 : Int32)), .val (.int (2 : Int32)), .val (.int (0 : Int32))] [(.int (2 : Int32))]))
    refine Go.st (fun _ => XS.iconst X0.here C.hx rfl (hb C.hby d4_34)) ?_
    show Go p e below s n0 _ _ _ (T0.setTop (mkF m 35 #[.val (.ref a1), .val (.int (4 : Int32)), .val (.int (2 : Int32)), .val (.int (2 : Int32)), .val (.int (0 : Int32))] [(.int (1 : Int32)), (.int (2 : Int32))]))
    refine Go.icmp_le C X0 (pc' := 62) d4_35 (by decide) (by decide) (fun hc => absurd hc (by decide)) (fun _ => ?_)
    show Go p e below s n0 _ _ _ (T0.setTop (mkF m 38 #[.val (.ref a1), .val (.int (4 : Int32)), .val (.int (2 : Int32)), .val (.int (2 : Int32)), .val (.int (0 : Int32))] []))
    refine Go.st (fun _ => XS.iload X0.here C.hx rfl (hb C.hby d4_38) rfl) ?_
    show Go p e below s n0 _ _ _ (T0.setTop (mkF m 40 #[.val (.ref a1), .val (.int (4 : Int32)), .val (.int (2 : Int32)), .val (.int (2 : Int32)), .val (.int (0 : Int32))] [(.int (0 : Int32))]))
    refine Go.if_eq C X0 (pc' := 59) d4_40 (by decide) (by decide) (fun _ => ?_) (fun hc => absurd hc (by decide))
    show Go p e below s n0 _ _ _ (T0.setTop (mkF m 59 #[.val (.ref a1), .val (.int (4 : Int32)), .val (.int (2 : Int32)), .val (.int (2 : Int32)), .val (.int (0 : Int32))] []))
    refine Go.st (fun _ => XS.iconst X0.here C.hx rfl (hb C.hby d4_59)) ?_
    show Go p e below s n0 _ _ _ (T0.setTop (mkF m 60 #[.val (.ref a1), .val (.int (4 : Int32)), .val (.int (2 : Int32)), .val (.int (2 : Int32)), .val (.int (0 : Int32))] [(.int (0 : Int32))]))
    refine Go.st (fun _ => XS.istore X0.here C.hx rfl (hb C.hby d4_60) rfl (l' := #[.val (.ref a1), .val (.int (4 : Int32)), .val (.int (2 : Int32)), .val (.int (2 : Int32)), .val (.int (0 : Int32))]) rfl) ?_
    show Go p e below s n0 _ _ _ (T0.setTop (mkF m 62 #[.val (.ref a1), .val (.int (4 : Int32)), .val (.int (2 : Int32)), .val (.int (2 : Int32)), .val (.int (0 : Int32))] []))
    refine Go.st (fun _ => XS.iloadN X0.here C.hx rfl (hb C.hby d4_62) rfl) ?_
    show Go p e below s n0 _ _ _ (T0.setTop (mkF m 63 #[.val (.ref a1), .val (.int (4 : Int32)), .val (.int (2 : Int32)), .val (.int (2 : Int32)), .val (.int (0 : Int32))] [(.int (2 : Int32))]))
    refine Go.st (fun _ => XS.iconst X0.here C.hx rfl (hb C.hby d4_63)) ?_
    show Go p e below s n0 _ _ _ (T0.setTop (mkF m 64 #[.val (.ref a1), .val (.int (4 : Int32)), .val (.int (2 : Int32)), .val (.int (2 : Int32)), .val (.int (0 : Int32))] [(.int (2 : Int32)), (.int (2 : Int32))]))
    refine Go.icmp_le C X0 (pc' := 91) d4_64 (by decide) (by decide) (fun _ => ?_) (fun hc => absurd hc (by decide))
    show Go p e below s n0 _ _ _ (T0.setTop (mkF m 91 #[.val (.ref a1), .val (.int (4 : Int32)), .val (.int (2 : Int32)), .val (.int (2 : Int32)), .val (.int (0 : Int32))] []))
    refine Go.st (fun _ => XS.iloadN X0.here C.hx rfl (hb C.hby d4_91) rfl) ?_
    show Go p e below s n0 _ _ _ (T0.setTop (mkF m 92 #[.val (.ref a1), .val (.int (4 : Int32)), .val (.int (2 : Int32)), .val (.int (2 : Int32)), .val (.int (0 : Int32))] [(.int (2 : Int32))]))
    refine Go.st (fun _ => XS.iconst X0.here C.hx rfl (hb C.hby d4_92)) ?_
    show Go p e below s n0 _ _ _ (T0.setTop (mkF m 93 #[.val (.ref a1), .val (.int (4 : Int32)), .val (.int (2 : Int32)), .val (.int (2 : Int32)), .val (.int (0 : Int32))] [(.int (3 : Int32)), (.int (2 : Int32))]))
    refine Go.icmp_le C X0 (pc' := 120) d4_93 (by decide) (by decide) (fun _ => ?_) (fun hc => absurd hc (by decide))
    show Go p e below s n0 _ _ _ (T0.setTop (mkF m 120 #[.val (.ref a1), .val (.int (4 : Int32)), .val (.int (2 : Int32)), .val (.int (2 : Int32)), .val (.int (0 : Int32))] []))
    refine Go.st (fun _ => XS.iloadN X0.here C.hx rfl (hb C.hby d4_120) rfl) ?_
    show Go p e below s n0 _ _ _ (T0.setTop (mkF m 121 #[.val (.ref a1), .val (.int (4 : Int32)), .val (.int (2 : Int32)), .val (.int (2 : Int32)), .val (.int (0 : Int32))] [(.int (2 : Int32))]))
    refine Go.st (fun _ => XS.iconst X0.here C.hx rfl (hb C.hby d4_121)) ?_
    show Go p e below s n0 _ _ _ (T0.setTop (mkF m 122 #[.val (.ref a1), .val (.int (4 : Int32)), .val (.int (2 : Int32)), .val (.int (2 : Int32)), .val (.int (0 : Int32))] [(.int (4 : Int32)), (.int (2 : Int32))]))
    refine Go.icmp_le C X0 (pc' := 149) d4_122 (by decide) (by decide) (fun _ => ?_) (fun hc => absurd hc (by decide))
    show Go p e below s n0 _ _ _ (T0.setTop (mkF m 149 #[.val (.ref a1), .val (.int (4 : Int32)), .val (.int (2 : Int32)), .val (.int (2 : Int32)), .val (.int (0 : Int32))] []))
    refine Go.st (fun _ => XS.iload X0.here C.hx rfl (hb C.hby d4_149) rfl) ?_
    show Go p e below s n0 _ _ _ (T0.setTop (mkF m 151 #[.val (.ref a1), .val (.int (4 : Int32)), .val (.int (2 : Int32)), .val (.int (2 : Int32)), .val (.int (0 : Int32))] [(.int (0 : Int32))]))
    exact Go.retZ C X0 (by decide) d4_151 ⟨by simp [b2i, sameE, Esl, List.range_succ, hc23_164], rfl⟩ (by decide) (by decide)
  · show Go p e below s n0 _ _ _ (T0.setTop (mkF m 26 #[.val (.ref a1), .val (.int (4 : Int32)), .val (.int (2 : Int32)), .val (.int (2 : Int32)), .val (.int (1 : Int32))] []))
    refine Go.st (fun _ => XS.iconst X0.here C.hx rfl (hb C.hby d4_26)) ?_
    show Go p e below s n0 _ _ _ (T0.setTop (mkF m 27 #[.val (.ref a1), .val (.int (4 : Int32)), .val (.int (2 : Int32)), .val (.int (2 : Int32)), .val (.int (1 : Int32))] [(.int (1 : Int32))]))
    refine Go.st (fun _ => XS.goto X0.here C.hx rfl (pc0 := 27) (pc' := 31) rfl (hb C.hby d4_27) (by decide) (by decide)) ?_
    show Go p e below s n0 _ _ _ (T0.setTop (mkF m 31 #[.val (.ref a1), .val (.int (4 : Int32)), .val (.int (2 : Int32)), .val (.int (2 : Int32)), .val (.int (1 : Int32))] [(.int (1 : Int32))]))
    refine Go.st (fun _ => XS.istore X0.here C.hx rfl (hb C.hby d4_31) rfl (l' := #[.val (.ref a1), .val (.int (4 : Int32)), .val (.int (2 : Int32)), .val (.int (2 : Int32)), .val (.int (1 : Int32))]) rfl) ?_
    show Go p e below s n0 _ _ _ (T0.setTop (mkF m 33 #[.val (.ref a1), .val (.int (4 : Int32)), .val (.int (2 : Int32)), .val (.int (2 : Int32)), .val (.int (1 : Int32))] []))
    refine Go.st (fun _ => XS.iloadN X0.here C.hx rfl (hb C.hby d4_33) rfl) ?_
    show Go p e below s n0 _ _ _ (T0.setTop (mkF m 34 #[.val (.ref a1), .val (.int (4 : Int32)), .val (.int (2 : Int32)), .val (.int (2 : Int32)), .val (.int (1 : Int32))] [(.int (2 : Int32))]))
    refine Go.st (fun _ => XS.iconst X0.here C.hx rfl (hb C.hby d4_34)) ?_
    show Go p e below s n0 _ _ _ (T0.setTop (mkF m 35 #[.val (.ref a1), .val (.int (4 : Int32)), .val (.int (2 : Int32)), .val (.int (2 : Int32)), .val (.int (1 : Int32))] [(.int (1 : Int32)), (.int (2 : Int32))]))
    refine Go.icmp_le C X0 (pc' := 62) d4_35 (by decide) (by decide) (fun hc => absurd hc (by decide)) (fun _ => ?_)
    show Go p e below s n0 _ _ _ (T0.setTop (mkF m 38 #[.val (.ref a1), .val (.int (4 : Int32)), .val (.int (2 : Int32)), .val (.int (2 : Int32)), .val (.int (1 : Int32))] []))
    refine Go.st (fun _ => XS.iload X0.here C.hx rfl (hb C.hby d4_38) rfl) ?_
    show Go p e below s n0 _ _ _ (T0.setTop (mkF m 40 #[.val (.ref a1), .val (.int (4 : Int32)), .val (.int (2 : Int32)), .val (.int (2 : Int32)), .val (.int (1 : Int32))] [(.int (1 : Int32))]))
    refine Go.if_eq C X0 (pc' := 59) d4_40 (by decide) (by decide) (fun hc => absurd hc (by decide)) (fun _ => ?_)
    show Go p e below s n0 _ _ _ (T0.setTop (mkF m 43 #[.val (.ref a1), .val (.int (4 : Int32)), .val (.int (2 : Int32)), .val (.int (2 : Int32)), .val (.int (1 : Int32))] []))
    refine Go.st (fun _ => XS.aloadN X0.here C.hx rfl (hb C.hby d4_43) rfl rfl) ?_
    show Go p e below s n0 _ _ _ (T0.setTop (mkF m 44 #[.val (.ref a1), .val (.int (4 : Int32)), .val (.int (2 : Int32)), .val (.int (2 : Int32)), .val (.int (1 : Int32))] [(.ref a1)]))
    refine Go.st (fun _ => XS.iconst X0.here C.hx rfl (hb C.hby d4_44)) ?_
    show Go p e below s n0 _ _ _ (T0.setTop (mkF m 45 #[.val (.ref a1), .val (.int (4 : Int32)), .val (.int (2 : Int32)), .val (.int (2 : Int32)), .val (.int (1 : Int32))] [(.int (1 : Int32)), (.ref a1)]))
    refine Go.laload C X0 A1 (by decide) (getL (i := 1) hs (by decide)) d4_45 ?_
    show Go p e below s n0 _ _ _ (T0.setTop (mkF m 46 #[.val (.ref a1), .val (.int (4 : Int32)), .val (.int (2 : Int32)), .val (.int (2 : Int32)), .val (.int (1 : Int32))] [(.long (el sl 1))]))
    refine Go.st (fun _ => XS.aloadN X0.here C.hx rfl (hb C.hby d4_46) rfl rfl) ?_
    show Go p e below s n0 _ _ _ (T0.setTop (mkF m 47 #[.val (.ref a1), .val (.int (4 : Int32)), .val (.int (2 : Int32)), .val (.int (2 : Int32)), .val (.int (1 : Int32))] [(.ref a1), (.long (el sl 1))]))
    refine Go.st (fun _ => XS.iloadN X0.here C.hx rfl (hb C.hby d4_47) rfl) ?_
    show Go p e below s n0 _ _ _ (T0.setTop (mkF m 48 #[.val (.ref a1), .val (.int (4 : Int32)), .val (.int (2 : Int32)), .val (.int (2 : Int32)), .val (.int (1 : Int32))] [(.int (2 : Int32)), (.ref a1), (.long (el sl 1))]))
    refine Go.st (fun _ => XS.iconst X0.here C.hx rfl (hb C.hby d4_48)) ?_
    show Go p e below s n0 _ _ _ (T0.setTop (mkF m 49 #[.val (.ref a1), .val (.int (4 : Int32)), .val (.int (2 : Int32)), .val (.int (2 : Int32)), .val (.int (1 : Int32))] [(.int (1 : Int32)), (.int (2 : Int32)), (.ref a1), (.long (el sl 1))]))
    refine Go.st (fun _ => XS.iadd X0.here C.hx rfl (hb C.hby d4_49) rfl) ?_
    show Go p e below s n0 _ _ _ (T0.setTop (mkF m 50 #[.val (.ref a1), .val (.int (4 : Int32)), .val (.int (2 : Int32)), .val (.int (2 : Int32)), .val (.int (1 : Int32))] [(.int (3 : Int32)), (.ref a1), (.long (el sl 1))]))
    refine Go.laload C X0 A1 (by decide) (getL (i := 3) hs (by decide)) d4_50 ?_
    show Go p e below s n0 _ _ _ (T0.setTop (mkF m 51 #[.val (.ref a1), .val (.int (4 : Int32)), .val (.int (2 : Int32)), .val (.int (2 : Int32)), .val (.int (1 : Int32))] [(.long (el sl 3)), (.long (el sl 1))]))
    refine Go.st (fun _ => XS.lcmp X0.here C.hx rfl (hb C.hby d4_51) rfl) ?_
    show Go p e below s n0 _ _ _ (T0.setTop (mkF m 52 #[.val (.ref a1), .val (.int (4 : Int32)), .val (.int (2 : Int32)), .val (.int (2 : Int32)), .val (.int (1 : Int32))] [(.int (lcmpW (el sl 1) (el sl 3)))]))
    refine Go.lif_ne C X0 (pc' := 59) d4_52 (by decide) (by decide) (fun hc52_172 => ?_) (fun hc52_172 => ?_)
    · show Go p e below s n0 _ _ _ (T0.setTop (mkF m 59 #[.val (.ref a1), .val (.int (4 : Int32)), .val (.int (2 : Int32)), .val (.int (2 : Int32)), .val (.int (1 : Int32))] []))
      refine Go.st (fun _ => XS.iconst X0.here C.hx rfl (hb C.hby d4_59)) ?_
      show Go p e below s n0 _ _ _ (T0.setTop (mkF m 60 #[.val (.ref a1), .val (.int (4 : Int32)), .val (.int (2 : Int32)), .val (.int (2 : Int32)), .val (.int (1 : Int32))] [(.int (0 : Int32))]))
      refine Go.st (fun _ => XS.istore X0.here C.hx rfl (hb C.hby d4_60) rfl (l' := #[.val (.ref a1), .val (.int (4 : Int32)), .val (.int (2 : Int32)), .val (.int (2 : Int32)), .val (.int (0 : Int32))]) rfl) ?_
      show Go p e below s n0 _ _ _ (T0.setTop (mkF m 62 #[.val (.ref a1), .val (.int (4 : Int32)), .val (.int (2 : Int32)), .val (.int (2 : Int32)), .val (.int (0 : Int32))] []))
      refine Go.st (fun _ => XS.iloadN X0.here C.hx rfl (hb C.hby d4_62) rfl) ?_
      show Go p e below s n0 _ _ _ (T0.setTop (mkF m 63 #[.val (.ref a1), .val (.int (4 : Int32)), .val (.int (2 : Int32)), .val (.int (2 : Int32)), .val (.int (0 : Int32))] [(.int (2 : Int32))]))
      refine Go.st (fun _ => XS.iconst X0.here C.hx rfl (hb C.hby d4_63)) ?_
      show Go p e below s n0 _ _ _ (T0.setTop (mkF m 64 #[.val (.ref a1), .val (.int (4 : Int32)), .val (.int (2 : Int32)), .val (.int (2 : Int32)), .val (.int (0 : Int32))] [(.int (2 : Int32)), (.int (2 : Int32))]))
      refine Go.icmp_le C X0 (pc' := 91) d4_64 (by decide) (by decide) (fun _ => ?_) (fun hc => absurd hc (by decide))
      show Go p e below s n0 _ _ _ (T0.setTop (mkF m 91 #[.val (.ref a1), .val (.int (4 : Int32)), .val (.int (2 : Int32)), .val (.int (2 : Int32)), .val (.int (0 : Int32))] []))
      refine Go.st (fun _ => XS.iloadN X0.here C.hx rfl (hb C.hby d4_91) rfl) ?_
      show Go p e below s n0 _ _ _ (T0.setTop (mkF m 92 #[.val (.ref a1), .val (.int (4 : Int32)), .val (.int (2 : Int32)), .val (.int (2 : Int32)), .val (.int (0 : Int32))] [(.int (2 : Int32))]))
      refine Go.st (fun _ => XS.iconst X0.here C.hx rfl (hb C.hby d4_92)) ?_
      show Go p e below s n0 _ _ _ (T0.setTop (mkF m 93 #[.val (.ref a1), .val (.int (4 : Int32)), .val (.int (2 : Int32)), .val (.int (2 : Int32)), .val (.int (0 : Int32))] [(.int (3 : Int32)), (.int (2 : Int32))]))
      refine Go.icmp_le C X0 (pc' := 120) d4_93 (by decide) (by decide) (fun _ => ?_) (fun hc => absurd hc (by decide))
      show Go p e below s n0 _ _ _ (T0.setTop (mkF m 120 #[.val (.ref a1), .val (.int (4 : Int32)), .val (.int (2 : Int32)), .val (.int (2 : Int32)), .val (.int (0 : Int32))] []))
      refine Go.st (fun _ => XS.iloadN X0.here C.hx rfl (hb C.hby d4_120) rfl) ?_
      show Go p e below s n0 _ _ _ (T0.setTop (mkF m 121 #[.val (.ref a1), .val (.int (4 : Int32)), .val (.int (2 : Int32)), .val (.int (2 : Int32)), .val (.int (0 : Int32))] [(.int (2 : Int32))]))
      refine Go.st (fun _ => XS.iconst X0.here C.hx rfl (hb C.hby d4_121)) ?_
      show Go p e below s n0 _ _ _ (T0.setTop (mkF m 122 #[.val (.ref a1), .val (.int (4 : Int32)), .val (.int (2 : Int32)), .val (.int (2 : Int32)), .val (.int (0 : Int32))] [(.int (4 : Int32)), (.int (2 : Int32))]))
      refine Go.icmp_le C X0 (pc' := 149) d4_122 (by decide) (by decide) (fun _ => ?_) (fun hc => absurd hc (by decide))
      show Go p e below s n0 _ _ _ (T0.setTop (mkF m 149 #[.val (.ref a1), .val (.int (4 : Int32)), .val (.int (2 : Int32)), .val (.int (2 : Int32)), .val (.int (0 : Int32))] []))
      refine Go.st (fun _ => XS.iload X0.here C.hx rfl (hb C.hby d4_149) rfl) ?_
      show Go p e below s n0 _ _ _ (T0.setTop (mkF m 151 #[.val (.ref a1), .val (.int (4 : Int32)), .val (.int (2 : Int32)), .val (.int (2 : Int32)), .val (.int (0 : Int32))] [(.int (0 : Int32))]))
      exact Go.retZ C X0 (by decide) d4_151 ⟨by simp [b2i, sameE, Esl, List.range_succ, hc23_164, hc52_172], rfl⟩ (by decide) (by decide)
    · show Go p e below s n0 _ _ _ (T0.setTop (mkF m 55 #[.val (.ref a1), .val (.int (4 : Int32)), .val (.int (2 : Int32)), .val (.int (2 : Int32)), .val (.int (1 : Int32))] []))
      refine Go.st (fun _ => XS.iconst X0.here C.hx rfl (hb C.hby d4_55)) ?_
      show Go p e below s n0 _ _ _ (T0.setTop (mkF m 56 #[.val (.ref a1), .val (.int (4 : Int32)), .val (.int (2 : Int32)), .val (.int (2 : Int32)), .val (.int (1 : Int32))] [(.int (1 : Int32))]))
      refine Go.st (fun _ => XS.goto X0.here C.hx rfl (pc0 := 56) (pc' := 60) rfl (hb C.hby d4_56) (by decide) (by decide)) ?_
      show Go p e below s n0 _ _ _ (T0.setTop (mkF m 60 #[.val (.ref a1), .val (.int (4 : Int32)), .val (.int (2 : Int32)), .val (.int (2 : Int32)), .val (.int (1 : Int32))] [(.int (1 : Int32))]))
      refine Go.st (fun _ => XS.istore X0.here C.hx rfl (hb C.hby d4_60) rfl (l' := #[.val (.ref a1), .val (.int (4 : Int32)), .val (.int (2 : Int32)), .val (.int (2 : Int32)), .val (.int (1 : Int32))]) rfl) ?_
      show Go p e below s n0 _ _ _ (T0.setTop (mkF m 62 #[.val (.ref a1), .val (.int (4 : Int32)), .val (.int (2 : Int32)), .val (.int (2 : Int32)), .val (.int (1 : Int32))] []))
      refine Go.st (fun _ => XS.iloadN X0.here C.hx rfl (hb C.hby d4_62) rfl) ?_
      show Go p e below s n0 _ _ _ (T0.setTop (mkF m 63 #[.val (.ref a1), .val (.int (4 : Int32)), .val (.int (2 : Int32)), .val (.int (2 : Int32)), .val (.int (1 : Int32))] [(.int (2 : Int32))]))
      refine Go.st (fun _ => XS.iconst X0.here C.hx rfl (hb C.hby d4_63)) ?_
      show Go p e below s n0 _ _ _ (T0.setTop (mkF m 64 #[.val (.ref a1), .val (.int (4 : Int32)), .val (.int (2 : Int32)), .val (.int (2 : Int32)), .val (.int (1 : Int32))] [(.int (2 : Int32)), (.int (2 : Int32))]))
      refine Go.icmp_le C X0 (pc' := 91) d4_64 (by decide) (by decide) (fun _ => ?_) (fun hc => absurd hc (by decide))
      show Go p e below s n0 _ _ _ (T0.setTop (mkF m 91 #[.val (.ref a1), .val (.int (4 : Int32)), .val (.int (2 : Int32)), .val (.int (2 : Int32)), .val (.int (1 : Int32))] []))
      refine Go.st (fun _ => XS.iloadN X0.here C.hx rfl (hb C.hby d4_91) rfl) ?_
      show Go p e below s n0 _ _ _ (T0.setTop (mkF m 92 #[.val (.ref a1), .val (.int (4 : Int32)), .val (.int (2 : Int32)), .val (.int (2 : Int32)), .val (.int (1 : Int32))] [(.int (2 : Int32))]))
      refine Go.st (fun _ => XS.iconst X0.here C.hx rfl (hb C.hby d4_92)) ?_
      show Go p e below s n0 _ _ _ (T0.setTop (mkF m 93 #[.val (.ref a1), .val (.int (4 : Int32)), .val (.int (2 : Int32)), .val (.int (2 : Int32)), .val (.int (1 : Int32))] [(.int (3 : Int32)), (.int (2 : Int32))]))
      refine Go.icmp_le C X0 (pc' := 120) d4_93 (by decide) (by decide) (fun _ => ?_) (fun hc => absurd hc (by decide))
      show Go p e below s n0 _ _ _ (T0.setTop (mkF m 120 #[.val (.ref a1), .val (.int (4 : Int32)), .val (.int (2 : Int32)), .val (.int (2 : Int32)), .val (.int (1 : Int32))] []))
      refine Go.st (fun _ => XS.iloadN X0.here C.hx rfl (hb C.hby d4_120) rfl) ?_
      show Go p e below s n0 _ _ _ (T0.setTop (mkF m 121 #[.val (.ref a1), .val (.int (4 : Int32)), .val (.int (2 : Int32)), .val (.int (2 : Int32)), .val (.int (1 : Int32))] [(.int (2 : Int32))]))
      refine Go.st (fun _ => XS.iconst X0.here C.hx rfl (hb C.hby d4_121)) ?_
      show Go p e below s n0 _ _ _ (T0.setTop (mkF m 122 #[.val (.ref a1), .val (.int (4 : Int32)), .val (.int (2 : Int32)), .val (.int (2 : Int32)), .val (.int (1 : Int32))] [(.int (4 : Int32)), (.int (2 : Int32))]))
      refine Go.icmp_le C X0 (pc' := 149) d4_122 (by decide) (by decide) (fun _ => ?_) (fun hc => absurd hc (by decide))
      show Go p e below s n0 _ _ _ (T0.setTop (mkF m 149 #[.val (.ref a1), .val (.int (4 : Int32)), .val (.int (2 : Int32)), .val (.int (2 : Int32)), .val (.int (1 : Int32))] []))
      refine Go.st (fun _ => XS.iload X0.here C.hx rfl (hb C.hby d4_149) rfl) ?_
      show Go p e below s n0 _ _ _ (T0.setTop (mkF m 151 #[.val (.ref a1), .val (.int (4 : Int32)), .val (.int (2 : Int32)), .val (.int (2 : Int32)), .val (.int (1 : Int32))] [(.int (1 : Int32))]))
      exact Go.retZ C X0 (by decide) d4_151 ⟨by simp [b2i, sameE, Esl, List.range_succ, hc23_164, hc52_172], rfl⟩ (by decide) (by decide)
set_option maxRecDepth 65536 in
set_option maxHeartbeats 40000000 in
theorem con_same_4_3 (l : Launch) (Z : State) (a0 : Array Value) (hw : ∀ d ∈ tables_1, d.before a0 Z = true) (n0 : Nat) (h0 : Heap) (Z0 : n0 ≤ h0.size) (a1 : Addr) (sl : List Int64) (hs : sl.length = 6) (A1 : AR Z h0 a1 .long (sl.map Value.long)) :
    Con l Z (⟨"com/example/orderly_ring/orderlyring/model/SequencesExtendBordersPinLaw", "same", "([JII)Z"⟩ : MethodName) method_3_code 5 (some .boolean) [] ({ frames := 0, cells := 0, slots := 0, locals := 0 } : Room) n0 #[(.ref a1), (.int (4 : Int32)), (.int (3 : Int32))] h0 (fun v h => v = some (.int (b2i (sameE (Esl sl) 4 3))) ∧ h = h0) := by
  refine Con.mk pf_4 hw Z0 ?_
  intro p e s m below meth c T0 C X0
  have ef : entryFrame m #[(.ref a1), (.int (4 : Int32)), (.int (3 : Int32))] 5 = mkF m 0 #[.val (.ref a1), .val (.int (4 : Int32)), .val (.int (3 : Int32)), .unset, .unset] [] := by first | (simp [entryFrame, mkF, argsToLocals, Value.category]; done) | rfl
  rw [ef]
  show Go p e below s n0 _ _ _ (T0.setTop (mkF m 0 #[.val (.ref a1), .val (.int (4 : Int32)), .val (.int (3 : Int32)), .unset, .unset] []))
  refine Go.st (fun _ => XS.iloadN X0.here C.hx rfl (hb C.hby d4_0) rfl) ?_
  show Go p e below s n0 _ _ _ (T0.setTop (mkF m 1 #[.val (.ref a1), .val (.int (4 : Int32)), .val (.int (3 : Int32)), .unset, .unset] [(.int (4 : Int32))]))
  refine Go.st (fun _ => XS.iloadN X0.here C.hx rfl (hb C.hby d4_1) rfl) ?_
  show Go p e below s n0 _ _ _ (T0.setTop (mkF m 2 #[.val (.ref a1), .val (.int (4 : Int32)), .val (.int (3 : Int32)), .unset, .unset] [(.int (3 : Int32)), (.int (4 : Int32))]))
  refine Go.st (fun _ => XS.isub X0.here C.hx rfl (hb C.hby d4_2) rfl) ?_
  show Go p e below s n0 _ _ _ (T0.setTop (mkF m 3 #[.val (.ref a1), .val (.int (4 : Int32)), .val (.int (3 : Int32)), .unset, .unset] [(.int (1 : Int32))]))
  refine Go.st (fun _ => XS.istoreN X0.here C.hx rfl (hb C.hby d4_3) rfl (l' := #[.val (.ref a1), .val (.int (4 : Int32)), .val (.int (3 : Int32)), .val (.int (1 : Int32)), .unset]) rfl) ?_
  show Go p e below s n0 _ _ _ (T0.setTop (mkF m 4 #[.val (.ref a1), .val (.int (4 : Int32)), .val (.int (3 : Int32)), .val (.int (1 : Int32)), .unset] []))
  refine Go.st (fun _ => XS.iconst X0.here C.hx rfl (hb C.hby d4_4)) ?_
  show Go p e below s n0 _ _ _ (T0.setTop (mkF m 5 #[.val (.ref a1), .val (.int (4 : Int32)), .val (.int (3 : Int32)), .val (.int (1 : Int32)), .unset] [(.int (1 : Int32))]))
  refine Go.st (fun _ => XS.istore X0.here C.hx rfl (hb C.hby d4_5) rfl (l' := #[.val (.ref a1), .val (.int (4 : Int32)), .val (.int (3 : Int32)), .val (.int (1 : Int32)), .val (.int (1 : Int32))]) rfl) ?_
  show Go p e below s n0 _ _ _ (T0.setTop (mkF m 7 #[.val (.ref a1), .val (.int (4 : Int32)), .val (.int (3 : Int32)), .val (.int (1 : Int32)), .val (.int (1 : Int32))] []))
  refine Go.st (fun _ => XS.iloadN X0.here C.hx rfl (hb C.hby d4_7) rfl) ?_
  show Go p e below s n0 _ _ _ (T0.setTop (mkF m 8 #[.val (.ref a1), .val (.int (4 : Int32)), .val (.int (3 : Int32)), .val (.int (1 : Int32)), .val (.int (1 : Int32))] [(.int (3 : Int32))]))
  refine Go.if_le C X0 (pc' := 33) d4_8 (by decide) (by decide) (fun hc => absurd hc (by decide)) (fun _ => ?_)
  show Go p e below s n0 _ _ _ (T0.setTop (mkF m 11 #[.val (.ref a1), .val (.int (4 : Int32)), .val (.int (3 : Int32)), .val (.int (1 : Int32)), .val (.int (1 : Int32))] []))
  refine Go.st (fun _ => XS.iload X0.here C.hx rfl (hb C.hby d4_11) rfl) ?_
  show Go p e below s n0 _ _ _ (T0.setTop (mkF m 13 #[.val (.ref a1), .val (.int (4 : Int32)), .val (.int (3 : Int32)), .val (.int (1 : Int32)), .val (.int (1 : Int32))] [(.int (1 : Int32))]))
  refine Go.if_eq C X0 (pc' := 30) d4_13 (by decide) (by decide) (fun hc => absurd hc (by decide)) (fun _ => ?_)
  show Go p e below s n0 _ _ _ (T0.setTop (mkF m 16 #[.val (.ref a1), .val (.int (4 : Int32)), .val (.int (3 : Int32)), .val (.int (1 : Int32)), .val (.int (1 : Int32))] []))
  refine Go.st (fun _ => XS.aloadN X0.here C.hx rfl (hb C.hby d4_16) rfl rfl) ?_
  show Go p e below s n0 _ _ _ (T0.setTop (mkF m 17 #[.val (.ref a1), .val (.int (4 : Int32)), .val (.int (3 : Int32)), .val (.int (1 : Int32)), .val (.int (1 : Int32))] [(.ref a1)]))
  refine Go.st (fun _ => XS.iconst X0.here C.hx rfl (hb C.hby d4_17)) ?_
  show Go p e below s n0 _ _ _ (T0.setTop (mkF m 18 #[.val (.ref a1), .val (.int (4 : Int32)), .val (.int (3 : Int32)), .val (.int (1 : Int32)), .val (.int (1 : Int32))] [(.int (0 : Int32)), (.ref a1)]))
  refine Go.laload C X0 A1 (by decide) (getL (i := 0) hs (by decide)) d4_18 ?_
  show Go p e below s n0 _ _ _ (T0.setTop (mkF m 19 #[.val (.ref a1), .val (.int (4 : Int32)), .val (.int (3 : Int32)), .val (.int (1 : Int32)), .val (.int (1 : Int32))] [(.long (el sl 0))]))
  refine Go.st (fun _ => XS.aloadN X0.here C.hx rfl (hb C.hby d4_19) rfl rfl) ?_
  show Go p e below s n0 _ _ _ (T0.setTop (mkF m 20 #[.val (.ref a1), .val (.int (4 : Int32)), .val (.int (3 : Int32)), .val (.int (1 : Int32)), .val (.int (1 : Int32))] [(.ref a1), (.long (el sl 0))]))
  refine Go.st (fun _ => XS.iloadN X0.here C.hx rfl (hb C.hby d4_20) rfl) ?_
  show Go p e below s n0 _ _ _ (T0.setTop (mkF m 21 #[.val (.ref a1), .val (.int (4 : Int32)), .val (.int (3 : Int32)), .val (.int (1 : Int32)), .val (.int (1 : Int32))] [(.int (1 : Int32)), (.ref a1), (.long (el sl 0))]))
  refine Go.laload C X0 A1 (by decide) (getL (i := 1) hs (by decide)) d4_21 ?_
  show Go p e below s n0 _ _ _ (T0.setTop (mkF m 22 #[.val (.ref a1), .val (.int (4 : Int32)), .val (.int (3 : Int32)), .val (.int (1 : Int32)), .val (.int (1 : Int32))] [(.long (el sl 1)), (.long (el sl 0))]))
  refine Go.st (fun _ => XS.lcmp X0.here C.hx rfl (hb C.hby d4_22) rfl) ?_
  show Go p e below s n0 _ _ _ (T0.setTop (mkF m 23 #[.val (.ref a1), .val (.int (4 : Int32)), .val (.int (3 : Int32)), .val (.int (1 : Int32)), .val (.int (1 : Int32))] [(.int (lcmpW (el sl 0) (el sl 1)))]))
  refine Go.lif_ne C X0 (pc' := 30) d4_23 (by decide) (by decide) (fun hc23_181 => ?_) (fun hc23_181 => ?_)
  · show Go p e below s n0 _ _ _ (T0.setTop (mkF m 30 #[.val (.ref a1), .val (.int (4 : Int32)), .val (.int (3 : Int32)), .val (.int (1 : Int32)), .val (.int (1 : Int32))] []))
    refine Go.st (fun _ => XS.iconst X0.here C.hx rfl (hb C.hby d4_30)) ?_
    show Go p e below s n0 _ _ _ (T0.setTop (mkF m 31 #[.val (.ref a1), .val (.int (4 : Int32)), .val (.int (3 : Int32)), .val (.int (1 : Int32)), .val (.int (1 : Int32))] [(.int (0 : Int32))]))
    refine Go.st (fun _ => XS.istore X0.here C.hx rfl (hb C.hby d4_31) rfl (l' := #[.val (.ref a1), .val (.int (4 : Int32)), .val (.int (3 : Int32)), .val (.int (1 : Int32)), .val (.int (0 : Int32))]) rfl) ?_
    show Go p e below s n0 _ _ _ (T0.setTop (mkF m 33 #[.val (.ref a1), .val (.int (4 : Int32)), .val (.int (3 : Int32)), .val (.int (1 : Int32)), .val (.int (0 : Int32))] []))
    refine Go.st (fun _ => XS.iloadN X0.here C.hx rfl (hb C.hby d4_33) rfl) ?_
    show Go p e below s n0 _ _ _ (T0.setTop (mkF m 34 #[.val (.ref a1), .val (.int (4 : Int32)), .val (.int (3 : Int32)), .val (.int (1 : Int32)), .val (.int (0 : Int32))] [(.int (3 : Int32))]))
    refine Go.st (fun _ => XS.iconst X0.here C.hx rfl (hb C.hby d4_34)) ?_
    show Go p e below s n0 _ _ _ (T0.setTop (mkF m 35 #[.val (.ref a1), .val (.int (4 : Int32)), .val (.int (3 : Int32)), .val (.int (1 : Int32)), .val (.int (0 : Int32))] [(.int (1 : Int32)), (.int (3 : Int32))]))
    refine Go.icmp_le C X0 (pc' := 62) d4_35 (by decide) (by decide) (fun hc => absurd hc (by decide)) (fun _ => ?_)
    show Go p e below s n0 _ _ _ (T0.setTop (mkF m 38 #[.val (.ref a1), .val (.int (4 : Int32)), .val (.int (3 : Int32)), .val (.int (1 : Int32)), .val (.int (0 : Int32))] []))
    refine Go.st (fun _ => XS.iload X0.here C.hx rfl (hb C.hby d4_38) rfl) ?_
    show Go p e below s n0 _ _ _ (T0.setTop (mkF m 40 #[.val (.ref a1), .val (.int (4 : Int32)), .val (.int (3 : Int32)), .val (.int (1 : Int32)), .val (.int (0 : Int32))] [(.int (0 : Int32))]))
    refine Go.if_eq C X0 (pc' := 59) d4_40 (by decide) (by decide) (fun _ => ?_) (fun hc => absurd hc (by decide))
    show Go p e below s n0 _ _ _ (T0.setTop (mkF m 59 #[.val (.ref a1), .val (.int (4 : Int32)), .val (.int (3 : Int32)), .val (.int (1 : Int32)), .val (.int (0 : Int32))] []))
    refine Go.st (fun _ => XS.iconst X0.here C.hx rfl (hb C.hby d4_59)) ?_
    show Go p e below s n0 _ _ _ (T0.setTop (mkF m 60 #[.val (.ref a1), .val (.int (4 : Int32)), .val (.int (3 : Int32)), .val (.int (1 : Int32)), .val (.int (0 : Int32))] [(.int (0 : Int32))]))
    refine Go.st (fun _ => XS.istore X0.here C.hx rfl (hb C.hby d4_60) rfl (l' := #[.val (.ref a1), .val (.int (4 : Int32)), .val (.int (3 : Int32)), .val (.int (1 : Int32)), .val (.int (0 : Int32))]) rfl) ?_
    show Go p e below s n0 _ _ _ (T0.setTop (mkF m 62 #[.val (.ref a1), .val (.int (4 : Int32)), .val (.int (3 : Int32)), .val (.int (1 : Int32)), .val (.int (0 : Int32))] []))
    refine Go.st (fun _ => XS.iloadN X0.here C.hx rfl (hb C.hby d4_62) rfl) ?_
    show Go p e below s n0 _ _ _ (T0.setTop (mkF m 63 #[.val (.ref a1), .val (.int (4 : Int32)), .val (.int (3 : Int32)), .val (.int (1 : Int32)), .val (.int (0 : Int32))] [(.int (3 : Int32))]))
    refine Go.st (fun _ => XS.iconst X0.here C.hx rfl (hb C.hby d4_63)) ?_
    show Go p e below s n0 _ _ _ (T0.setTop (mkF m 64 #[.val (.ref a1), .val (.int (4 : Int32)), .val (.int (3 : Int32)), .val (.int (1 : Int32)), .val (.int (0 : Int32))] [(.int (2 : Int32)), (.int (3 : Int32))]))
    refine Go.icmp_le C X0 (pc' := 91) d4_64 (by decide) (by decide) (fun hc => absurd hc (by decide)) (fun _ => ?_)
    show Go p e below s n0 _ _ _ (T0.setTop (mkF m 67 #[.val (.ref a1), .val (.int (4 : Int32)), .val (.int (3 : Int32)), .val (.int (1 : Int32)), .val (.int (0 : Int32))] []))
    refine Go.st (fun _ => XS.iload X0.here C.hx rfl (hb C.hby d4_67) rfl) ?_
    show Go p e below s n0 _ _ _ (T0.setTop (mkF m 69 #[.val (.ref a1), .val (.int (4 : Int32)), .val (.int (3 : Int32)), .val (.int (1 : Int32)), .val (.int (0 : Int32))] [(.int (0 : Int32))]))
    refine Go.if_eq C X0 (pc' := 88) d4_69 (by decide) (by decide) (fun _ => ?_) (fun hc => absurd hc (by decide))
    show Go p e below s n0 _ _ _ (T0.setTop (mkF m 88 #[.val (.ref a1), .val (.int (4 : Int32)), .val (.int (3 : Int32)), .val (.int (1 : Int32)), .val (.int (0 : Int32))] []))
    refine Go.st (fun _ => XS.iconst X0.here C.hx rfl (hb C.hby d4_88)) ?_
    show Go p e below s n0 _ _ _ (T0.setTop (mkF m 89 #[.val (.ref a1), .val (.int (4 : Int32)), .val (.int (3 : Int32)), .val (.int (1 : Int32)), .val (.int (0 : Int32))] [(.int (0 : Int32))]))
    refine Go.st (fun _ => XS.istore X0.here C.hx rfl (hb C.hby d4_89) rfl (l' := #[.val (.ref a1), .val (.int (4 : Int32)), .val (.int (3 : Int32)), .val (.int (1 : Int32)), .val (.int (0 : Int32))]) rfl) ?_
    show Go p e below s n0 _ _ _ (T0.setTop (mkF m 91 #[.val (.ref a1), .val (.int (4 : Int32)), .val (.int (3 : Int32)), .val (.int (1 : Int32)), .val (.int (0 : Int32))] []))
    refine Go.st (fun _ => XS.iloadN X0.here C.hx rfl (hb C.hby d4_91) rfl) ?_
    show Go p e below s n0 _ _ _ (T0.setTop (mkF m 92 #[.val (.ref a1), .val (.int (4 : Int32)), .val (.int (3 : Int32)), .val (.int (1 : Int32)), .val (.int (0 : Int32))] [(.int (3 : Int32))]))
    refine Go.st (fun _ => XS.iconst X0.here C.hx rfl (hb C.hby d4_92)) ?_
    show Go p e below s n0 _ _ _ (T0.setTop (mkF m 93 #[.val (.ref a1), .val (.int (4 : Int32)), .val (.int (3 : Int32)), .val (.int (1 : Int32)), .val (.int (0 : Int32))] [(.int (3 : Int32)), (.int (3 : Int32))]))
    refine Go.icmp_le C X0 (pc' := 120) d4_93 (by decide) (by decide) (fun _ => ?_) (fun hc => absurd hc (by decide))
    show Go p e below s n0 _ _ _ (T0.setTop (mkF m 120 #[.val (.ref a1), .val (.int (4 : Int32)), .val (.int (3 : Int32)), .val (.int (1 : Int32)), .val (.int (0 : Int32))] []))
    refine Go.st (fun _ => XS.iloadN X0.here C.hx rfl (hb C.hby d4_120) rfl) ?_
    show Go p e below s n0 _ _ _ (T0.setTop (mkF m 121 #[.val (.ref a1), .val (.int (4 : Int32)), .val (.int (3 : Int32)), .val (.int (1 : Int32)), .val (.int (0 : Int32))] [(.int (3 : Int32))]))
    refine Go.st (fun _ => XS.iconst X0.here C.hx rfl (hb C.hby d4_121)) ?_
    show Go p e below s n0 _ _ _ (T0.setTop (mkF m 122 #[.val (.ref a1), .val (.int (4 : Int32)), .val (.int (3 : Int32)), .val (.int (1 : Int32)), .val (.int (0 : Int32))] [(.int (4 : Int32)), (.int (3 : Int32))]))
    refine Go.icmp_le C X0 (pc' := 149) d4_122 (by decide) (by decide) (fun _ => ?_) (fun hc => absurd hc (by decide))
    show Go p e below s n0 _ _ _ (T0.setTop (mkF m 149 #[.val (.ref a1), .val (.int (4 : Int32)), .val (.int (3 : Int32)), .val (.int (1 : Int32)), .val (.int (0 : Int32))] []))
    refine Go.st (fun _ => XS.iload X0.here C.hx rfl (hb C.hby d4_149) rfl) ?_
    show Go p e below s n0 _ _ _ (T0.setTop (mkF m 151 #[.val (.ref a1), .val (.int (4 : Int32)), .val (.int (3 : Int32)), .val (.int (1 : Int32)), .val (.int (0 : Int32))] [(.int (0 : Int32))]))
    exact Go.retZ C X0 (by decide) d4_151 ⟨by simp [b2i, sameE, Esl, List.range_succ, hc23_181], rfl⟩ (by decide) (by decide)
  · show Go p e below s n0 _ _ _ (T0.setTop (mkF m 26 #[.val (.ref a1), .val (.int (4 : Int32)), .val (.int (3 : Int32)), .val (.int (1 : Int32)), .val (.int (1 : Int32))] []))
    refine Go.st (fun _ => XS.iconst X0.here C.hx rfl (hb C.hby d4_26)) ?_
    show Go p e below s n0 _ _ _ (T0.setTop (mkF m 27 #[.val (.ref a1), .val (.int (4 : Int32)), .val (.int (3 : Int32)), .val (.int (1 : Int32)), .val (.int (1 : Int32))] [(.int (1 : Int32))]))
    refine Go.st (fun _ => XS.goto X0.here C.hx rfl (pc0 := 27) (pc' := 31) rfl (hb C.hby d4_27) (by decide) (by decide)) ?_
    show Go p e below s n0 _ _ _ (T0.setTop (mkF m 31 #[.val (.ref a1), .val (.int (4 : Int32)), .val (.int (3 : Int32)), .val (.int (1 : Int32)), .val (.int (1 : Int32))] [(.int (1 : Int32))]))
    refine Go.st (fun _ => XS.istore X0.here C.hx rfl (hb C.hby d4_31) rfl (l' := #[.val (.ref a1), .val (.int (4 : Int32)), .val (.int (3 : Int32)), .val (.int (1 : Int32)), .val (.int (1 : Int32))]) rfl) ?_
    show Go p e below s n0 _ _ _ (T0.setTop (mkF m 33 #[.val (.ref a1), .val (.int (4 : Int32)), .val (.int (3 : Int32)), .val (.int (1 : Int32)), .val (.int (1 : Int32))] []))
    refine Go.st (fun _ => XS.iloadN X0.here C.hx rfl (hb C.hby d4_33) rfl) ?_
    show Go p e below s n0 _ _ _ (T0.setTop (mkF m 34 #[.val (.ref a1), .val (.int (4 : Int32)), .val (.int (3 : Int32)), .val (.int (1 : Int32)), .val (.int (1 : Int32))] [(.int (3 : Int32))]))
    refine Go.st (fun _ => XS.iconst X0.here C.hx rfl (hb C.hby d4_34)) ?_
    show Go p e below s n0 _ _ _ (T0.setTop (mkF m 35 #[.val (.ref a1), .val (.int (4 : Int32)), .val (.int (3 : Int32)), .val (.int (1 : Int32)), .val (.int (1 : Int32))] [(.int (1 : Int32)), (.int (3 : Int32))]))
    refine Go.icmp_le C X0 (pc' := 62) d4_35 (by decide) (by decide) (fun hc => absurd hc (by decide)) (fun _ => ?_)
    show Go p e below s n0 _ _ _ (T0.setTop (mkF m 38 #[.val (.ref a1), .val (.int (4 : Int32)), .val (.int (3 : Int32)), .val (.int (1 : Int32)), .val (.int (1 : Int32))] []))
    refine Go.st (fun _ => XS.iload X0.here C.hx rfl (hb C.hby d4_38) rfl) ?_
    show Go p e below s n0 _ _ _ (T0.setTop (mkF m 40 #[.val (.ref a1), .val (.int (4 : Int32)), .val (.int (3 : Int32)), .val (.int (1 : Int32)), .val (.int (1 : Int32))] [(.int (1 : Int32))]))
    refine Go.if_eq C X0 (pc' := 59) d4_40 (by decide) (by decide) (fun hc => absurd hc (by decide)) (fun _ => ?_)
    show Go p e below s n0 _ _ _ (T0.setTop (mkF m 43 #[.val (.ref a1), .val (.int (4 : Int32)), .val (.int (3 : Int32)), .val (.int (1 : Int32)), .val (.int (1 : Int32))] []))
    refine Go.st (fun _ => XS.aloadN X0.here C.hx rfl (hb C.hby d4_43) rfl rfl) ?_
    show Go p e below s n0 _ _ _ (T0.setTop (mkF m 44 #[.val (.ref a1), .val (.int (4 : Int32)), .val (.int (3 : Int32)), .val (.int (1 : Int32)), .val (.int (1 : Int32))] [(.ref a1)]))
    refine Go.st (fun _ => XS.iconst X0.here C.hx rfl (hb C.hby d4_44)) ?_
    show Go p e below s n0 _ _ _ (T0.setTop (mkF m 45 #[.val (.ref a1), .val (.int (4 : Int32)), .val (.int (3 : Int32)), .val (.int (1 : Int32)), .val (.int (1 : Int32))] [(.int (1 : Int32)), (.ref a1)]))
    refine Go.laload C X0 A1 (by decide) (getL (i := 1) hs (by decide)) d4_45 ?_
    show Go p e below s n0 _ _ _ (T0.setTop (mkF m 46 #[.val (.ref a1), .val (.int (4 : Int32)), .val (.int (3 : Int32)), .val (.int (1 : Int32)), .val (.int (1 : Int32))] [(.long (el sl 1))]))
    refine Go.st (fun _ => XS.aloadN X0.here C.hx rfl (hb C.hby d4_46) rfl rfl) ?_
    show Go p e below s n0 _ _ _ (T0.setTop (mkF m 47 #[.val (.ref a1), .val (.int (4 : Int32)), .val (.int (3 : Int32)), .val (.int (1 : Int32)), .val (.int (1 : Int32))] [(.ref a1), (.long (el sl 1))]))
    refine Go.st (fun _ => XS.iloadN X0.here C.hx rfl (hb C.hby d4_47) rfl) ?_
    show Go p e below s n0 _ _ _ (T0.setTop (mkF m 48 #[.val (.ref a1), .val (.int (4 : Int32)), .val (.int (3 : Int32)), .val (.int (1 : Int32)), .val (.int (1 : Int32))] [(.int (1 : Int32)), (.ref a1), (.long (el sl 1))]))
    refine Go.st (fun _ => XS.iconst X0.here C.hx rfl (hb C.hby d4_48)) ?_
    show Go p e below s n0 _ _ _ (T0.setTop (mkF m 49 #[.val (.ref a1), .val (.int (4 : Int32)), .val (.int (3 : Int32)), .val (.int (1 : Int32)), .val (.int (1 : Int32))] [(.int (1 : Int32)), (.int (1 : Int32)), (.ref a1), (.long (el sl 1))]))
    refine Go.st (fun _ => XS.iadd X0.here C.hx rfl (hb C.hby d4_49) rfl) ?_
    show Go p e below s n0 _ _ _ (T0.setTop (mkF m 50 #[.val (.ref a1), .val (.int (4 : Int32)), .val (.int (3 : Int32)), .val (.int (1 : Int32)), .val (.int (1 : Int32))] [(.int (2 : Int32)), (.ref a1), (.long (el sl 1))]))
    refine Go.laload C X0 A1 (by decide) (getL (i := 2) hs (by decide)) d4_50 ?_
    show Go p e below s n0 _ _ _ (T0.setTop (mkF m 51 #[.val (.ref a1), .val (.int (4 : Int32)), .val (.int (3 : Int32)), .val (.int (1 : Int32)), .val (.int (1 : Int32))] [(.long (el sl 2)), (.long (el sl 1))]))
    refine Go.st (fun _ => XS.lcmp X0.here C.hx rfl (hb C.hby d4_51) rfl) ?_
    show Go p e below s n0 _ _ _ (T0.setTop (mkF m 52 #[.val (.ref a1), .val (.int (4 : Int32)), .val (.int (3 : Int32)), .val (.int (1 : Int32)), .val (.int (1 : Int32))] [(.int (lcmpW (el sl 1) (el sl 2)))]))
    refine Go.lif_ne C X0 (pc' := 59) d4_52 (by decide) (by decide) (fun hc52_190 => ?_) (fun hc52_190 => ?_)
    · show Go p e below s n0 _ _ _ (T0.setTop (mkF m 59 #[.val (.ref a1), .val (.int (4 : Int32)), .val (.int (3 : Int32)), .val (.int (1 : Int32)), .val (.int (1 : Int32))] []))
      refine Go.st (fun _ => XS.iconst X0.here C.hx rfl (hb C.hby d4_59)) ?_
      show Go p e below s n0 _ _ _ (T0.setTop (mkF m 60 #[.val (.ref a1), .val (.int (4 : Int32)), .val (.int (3 : Int32)), .val (.int (1 : Int32)), .val (.int (1 : Int32))] [(.int (0 : Int32))]))
      refine Go.st (fun _ => XS.istore X0.here C.hx rfl (hb C.hby d4_60) rfl (l' := #[.val (.ref a1), .val (.int (4 : Int32)), .val (.int (3 : Int32)), .val (.int (1 : Int32)), .val (.int (0 : Int32))]) rfl) ?_
      show Go p e below s n0 _ _ _ (T0.setTop (mkF m 62 #[.val (.ref a1), .val (.int (4 : Int32)), .val (.int (3 : Int32)), .val (.int (1 : Int32)), .val (.int (0 : Int32))] []))
      refine Go.st (fun _ => XS.iloadN X0.here C.hx rfl (hb C.hby d4_62) rfl) ?_
      show Go p e below s n0 _ _ _ (T0.setTop (mkF m 63 #[.val (.ref a1), .val (.int (4 : Int32)), .val (.int (3 : Int32)), .val (.int (1 : Int32)), .val (.int (0 : Int32))] [(.int (3 : Int32))]))
      refine Go.st (fun _ => XS.iconst X0.here C.hx rfl (hb C.hby d4_63)) ?_
      show Go p e below s n0 _ _ _ (T0.setTop (mkF m 64 #[.val (.ref a1), .val (.int (4 : Int32)), .val (.int (3 : Int32)), .val (.int (1 : Int32)), .val (.int (0 : Int32))] [(.int (2 : Int32)), (.int (3 : Int32))]))
      refine Go.icmp_le C X0 (pc' := 91) d4_64 (by decide) (by decide) (fun hc => absurd hc (by decide)) (fun _ => ?_)
      show Go p e below s n0 _ _ _ (T0.setTop (mkF m 67 #[.val (.ref a1), .val (.int (4 : Int32)), .val (.int (3 : Int32)), .val (.int (1 : Int32)), .val (.int (0 : Int32))] []))
      refine Go.st (fun _ => XS.iload X0.here C.hx rfl (hb C.hby d4_67) rfl) ?_
      show Go p e below s n0 _ _ _ (T0.setTop (mkF m 69 #[.val (.ref a1), .val (.int (4 : Int32)), .val (.int (3 : Int32)), .val (.int (1 : Int32)), .val (.int (0 : Int32))] [(.int (0 : Int32))]))
      refine Go.if_eq C X0 (pc' := 88) d4_69 (by decide) (by decide) (fun _ => ?_) (fun hc => absurd hc (by decide))
      show Go p e below s n0 _ _ _ (T0.setTop (mkF m 88 #[.val (.ref a1), .val (.int (4 : Int32)), .val (.int (3 : Int32)), .val (.int (1 : Int32)), .val (.int (0 : Int32))] []))
      refine Go.st (fun _ => XS.iconst X0.here C.hx rfl (hb C.hby d4_88)) ?_
      show Go p e below s n0 _ _ _ (T0.setTop (mkF m 89 #[.val (.ref a1), .val (.int (4 : Int32)), .val (.int (3 : Int32)), .val (.int (1 : Int32)), .val (.int (0 : Int32))] [(.int (0 : Int32))]))
      refine Go.st (fun _ => XS.istore X0.here C.hx rfl (hb C.hby d4_89) rfl (l' := #[.val (.ref a1), .val (.int (4 : Int32)), .val (.int (3 : Int32)), .val (.int (1 : Int32)), .val (.int (0 : Int32))]) rfl) ?_
      show Go p e below s n0 _ _ _ (T0.setTop (mkF m 91 #[.val (.ref a1), .val (.int (4 : Int32)), .val (.int (3 : Int32)), .val (.int (1 : Int32)), .val (.int (0 : Int32))] []))
      refine Go.st (fun _ => XS.iloadN X0.here C.hx rfl (hb C.hby d4_91) rfl) ?_
      show Go p e below s n0 _ _ _ (T0.setTop (mkF m 92 #[.val (.ref a1), .val (.int (4 : Int32)), .val (.int (3 : Int32)), .val (.int (1 : Int32)), .val (.int (0 : Int32))] [(.int (3 : Int32))]))
      refine Go.st (fun _ => XS.iconst X0.here C.hx rfl (hb C.hby d4_92)) ?_
      show Go p e below s n0 _ _ _ (T0.setTop (mkF m 93 #[.val (.ref a1), .val (.int (4 : Int32)), .val (.int (3 : Int32)), .val (.int (1 : Int32)), .val (.int (0 : Int32))] [(.int (3 : Int32)), (.int (3 : Int32))]))
      refine Go.icmp_le C X0 (pc' := 120) d4_93 (by decide) (by decide) (fun _ => ?_) (fun hc => absurd hc (by decide))
      show Go p e below s n0 _ _ _ (T0.setTop (mkF m 120 #[.val (.ref a1), .val (.int (4 : Int32)), .val (.int (3 : Int32)), .val (.int (1 : Int32)), .val (.int (0 : Int32))] []))
      refine Go.st (fun _ => XS.iloadN X0.here C.hx rfl (hb C.hby d4_120) rfl) ?_
      show Go p e below s n0 _ _ _ (T0.setTop (mkF m 121 #[.val (.ref a1), .val (.int (4 : Int32)), .val (.int (3 : Int32)), .val (.int (1 : Int32)), .val (.int (0 : Int32))] [(.int (3 : Int32))]))
      refine Go.st (fun _ => XS.iconst X0.here C.hx rfl (hb C.hby d4_121)) ?_
      show Go p e below s n0 _ _ _ (T0.setTop (mkF m 122 #[.val (.ref a1), .val (.int (4 : Int32)), .val (.int (3 : Int32)), .val (.int (1 : Int32)), .val (.int (0 : Int32))] [(.int (4 : Int32)), (.int (3 : Int32))]))
      refine Go.icmp_le C X0 (pc' := 149) d4_122 (by decide) (by decide) (fun _ => ?_) (fun hc => absurd hc (by decide))
      show Go p e below s n0 _ _ _ (T0.setTop (mkF m 149 #[.val (.ref a1), .val (.int (4 : Int32)), .val (.int (3 : Int32)), .val (.int (1 : Int32)), .val (.int (0 : Int32))] []))
      refine Go.st (fun _ => XS.iload X0.here C.hx rfl (hb C.hby d4_149) rfl) ?_
      show Go p e below s n0 _ _ _ (T0.setTop (mkF m 151 #[.val (.ref a1), .val (.int (4 : Int32)), .val (.int (3 : Int32)), .val (.int (1 : Int32)), .val (.int (0 : Int32))] [(.int (0 : Int32))]))
      exact Go.retZ C X0 (by decide) d4_151 ⟨by simp [b2i, sameE, Esl, List.range_succ, hc23_181, hc52_190], rfl⟩ (by decide) (by decide)
    · show Go p e below s n0 _ _ _ (T0.setTop (mkF m 55 #[.val (.ref a1), .val (.int (4 : Int32)), .val (.int (3 : Int32)), .val (.int (1 : Int32)), .val (.int (1 : Int32))] []))
      refine Go.st (fun _ => XS.iconst X0.here C.hx rfl (hb C.hby d4_55)) ?_
      show Go p e below s n0 _ _ _ (T0.setTop (mkF m 56 #[.val (.ref a1), .val (.int (4 : Int32)), .val (.int (3 : Int32)), .val (.int (1 : Int32)), .val (.int (1 : Int32))] [(.int (1 : Int32))]))
      refine Go.st (fun _ => XS.goto X0.here C.hx rfl (pc0 := 56) (pc' := 60) rfl (hb C.hby d4_56) (by decide) (by decide)) ?_
      show Go p e below s n0 _ _ _ (T0.setTop (mkF m 60 #[.val (.ref a1), .val (.int (4 : Int32)), .val (.int (3 : Int32)), .val (.int (1 : Int32)), .val (.int (1 : Int32))] [(.int (1 : Int32))]))
      refine Go.st (fun _ => XS.istore X0.here C.hx rfl (hb C.hby d4_60) rfl (l' := #[.val (.ref a1), .val (.int (4 : Int32)), .val (.int (3 : Int32)), .val (.int (1 : Int32)), .val (.int (1 : Int32))]) rfl) ?_
      show Go p e below s n0 _ _ _ (T0.setTop (mkF m 62 #[.val (.ref a1), .val (.int (4 : Int32)), .val (.int (3 : Int32)), .val (.int (1 : Int32)), .val (.int (1 : Int32))] []))
      refine Go.st (fun _ => XS.iloadN X0.here C.hx rfl (hb C.hby d4_62) rfl) ?_
      show Go p e below s n0 _ _ _ (T0.setTop (mkF m 63 #[.val (.ref a1), .val (.int (4 : Int32)), .val (.int (3 : Int32)), .val (.int (1 : Int32)), .val (.int (1 : Int32))] [(.int (3 : Int32))]))
      refine Go.st (fun _ => XS.iconst X0.here C.hx rfl (hb C.hby d4_63)) ?_
      show Go p e below s n0 _ _ _ (T0.setTop (mkF m 64 #[.val (.ref a1), .val (.int (4 : Int32)), .val (.int (3 : Int32)), .val (.int (1 : Int32)), .val (.int (1 : Int32))] [(.int (2 : Int32)), (.int (3 : Int32))]))
      refine Go.icmp_le C X0 (pc' := 91) d4_64 (by decide) (by decide) (fun hc => absurd hc (by decide)) (fun _ => ?_)
      show Go p e below s n0 _ _ _ (T0.setTop (mkF m 67 #[.val (.ref a1), .val (.int (4 : Int32)), .val (.int (3 : Int32)), .val (.int (1 : Int32)), .val (.int (1 : Int32))] []))
      refine Go.st (fun _ => XS.iload X0.here C.hx rfl (hb C.hby d4_67) rfl) ?_
      show Go p e below s n0 _ _ _ (T0.setTop (mkF m 69 #[.val (.ref a1), .val (.int (4 : Int32)), .val (.int (3 : Int32)), .val (.int (1 : Int32)), .val (.int (1 : Int32))] [(.int (1 : Int32))]))
      refine Go.if_eq C X0 (pc' := 88) d4_69 (by decide) (by decide) (fun hc => absurd hc (by decide)) (fun _ => ?_)
      show Go p e below s n0 _ _ _ (T0.setTop (mkF m 72 #[.val (.ref a1), .val (.int (4 : Int32)), .val (.int (3 : Int32)), .val (.int (1 : Int32)), .val (.int (1 : Int32))] []))
      refine Go.st (fun _ => XS.aloadN X0.here C.hx rfl (hb C.hby d4_72) rfl rfl) ?_
      show Go p e below s n0 _ _ _ (T0.setTop (mkF m 73 #[.val (.ref a1), .val (.int (4 : Int32)), .val (.int (3 : Int32)), .val (.int (1 : Int32)), .val (.int (1 : Int32))] [(.ref a1)]))
      refine Go.st (fun _ => XS.iconst X0.here C.hx rfl (hb C.hby d4_73)) ?_
      show Go p e below s n0 _ _ _ (T0.setTop (mkF m 74 #[.val (.ref a1), .val (.int (4 : Int32)), .val (.int (3 : Int32)), .val (.int (1 : Int32)), .val (.int (1 : Int32))] [(.int (2 : Int32)), (.ref a1)]))
      refine Go.laload C X0 A1 (by decide) (getL (i := 2) hs (by decide)) d4_74 ?_
      show Go p e below s n0 _ _ _ (T0.setTop (mkF m 75 #[.val (.ref a1), .val (.int (4 : Int32)), .val (.int (3 : Int32)), .val (.int (1 : Int32)), .val (.int (1 : Int32))] [(.long (el sl 2))]))
      refine Go.st (fun _ => XS.aloadN X0.here C.hx rfl (hb C.hby d4_75) rfl rfl) ?_
      show Go p e below s n0 _ _ _ (T0.setTop (mkF m 76 #[.val (.ref a1), .val (.int (4 : Int32)), .val (.int (3 : Int32)), .val (.int (1 : Int32)), .val (.int (1 : Int32))] [(.ref a1), (.long (el sl 2))]))
      refine Go.st (fun _ => XS.iloadN X0.here C.hx rfl (hb C.hby d4_76) rfl) ?_
      show Go p e below s n0 _ _ _ (T0.setTop (mkF m 77 #[.val (.ref a1), .val (.int (4 : Int32)), .val (.int (3 : Int32)), .val (.int (1 : Int32)), .val (.int (1 : Int32))] [(.int (1 : Int32)), (.ref a1), (.long (el sl 2))]))
      refine Go.st (fun _ => XS.iconst X0.here C.hx rfl (hb C.hby d4_77)) ?_
      show Go p e below s n0 _ _ _ (T0.setTop (mkF m 78 #[.val (.ref a1), .val (.int (4 : Int32)), .val (.int (3 : Int32)), .val (.int (1 : Int32)), .val (.int (1 : Int32))] [(.int (2 : Int32)), (.int (1 : Int32)), (.ref a1), (.long (el sl 2))]))
      refine Go.st (fun _ => XS.iadd X0.here C.hx rfl (hb C.hby d4_78) rfl) ?_
      show Go p e below s n0 _ _ _ (T0.setTop (mkF m 79 #[.val (.ref a1), .val (.int (4 : Int32)), .val (.int (3 : Int32)), .val (.int (1 : Int32)), .val (.int (1 : Int32))] [(.int (3 : Int32)), (.ref a1), (.long (el sl 2))]))
      refine Go.laload C X0 A1 (by decide) (getL (i := 3) hs (by decide)) d4_79 ?_
      show Go p e below s n0 _ _ _ (T0.setTop (mkF m 80 #[.val (.ref a1), .val (.int (4 : Int32)), .val (.int (3 : Int32)), .val (.int (1 : Int32)), .val (.int (1 : Int32))] [(.long (el sl 3)), (.long (el sl 2))]))
      refine Go.st (fun _ => XS.lcmp X0.here C.hx rfl (hb C.hby d4_80) rfl) ?_
      show Go p e below s n0 _ _ _ (T0.setTop (mkF m 81 #[.val (.ref a1), .val (.int (4 : Int32)), .val (.int (3 : Int32)), .val (.int (1 : Int32)), .val (.int (1 : Int32))] [(.int (lcmpW (el sl 2) (el sl 3)))]))
      refine Go.lif_ne C X0 (pc' := 88) d4_81 (by decide) (by decide) (fun hc81_197 => ?_) (fun hc81_197 => ?_)
      · show Go p e below s n0 _ _ _ (T0.setTop (mkF m 88 #[.val (.ref a1), .val (.int (4 : Int32)), .val (.int (3 : Int32)), .val (.int (1 : Int32)), .val (.int (1 : Int32))] []))
        refine Go.st (fun _ => XS.iconst X0.here C.hx rfl (hb C.hby d4_88)) ?_
        show Go p e below s n0 _ _ _ (T0.setTop (mkF m 89 #[.val (.ref a1), .val (.int (4 : Int32)), .val (.int (3 : Int32)), .val (.int (1 : Int32)), .val (.int (1 : Int32))] [(.int (0 : Int32))]))
        refine Go.st (fun _ => XS.istore X0.here C.hx rfl (hb C.hby d4_89) rfl (l' := #[.val (.ref a1), .val (.int (4 : Int32)), .val (.int (3 : Int32)), .val (.int (1 : Int32)), .val (.int (0 : Int32))]) rfl) ?_
        show Go p e below s n0 _ _ _ (T0.setTop (mkF m 91 #[.val (.ref a1), .val (.int (4 : Int32)), .val (.int (3 : Int32)), .val (.int (1 : Int32)), .val (.int (0 : Int32))] []))
        refine Go.st (fun _ => XS.iloadN X0.here C.hx rfl (hb C.hby d4_91) rfl) ?_
        show Go p e below s n0 _ _ _ (T0.setTop (mkF m 92 #[.val (.ref a1), .val (.int (4 : Int32)), .val (.int (3 : Int32)), .val (.int (1 : Int32)), .val (.int (0 : Int32))] [(.int (3 : Int32))]))
        refine Go.st (fun _ => XS.iconst X0.here C.hx rfl (hb C.hby d4_92)) ?_
        show Go p e below s n0 _ _ _ (T0.setTop (mkF m 93 #[.val (.ref a1), .val (.int (4 : Int32)), .val (.int (3 : Int32)), .val (.int (1 : Int32)), .val (.int (0 : Int32))] [(.int (3 : Int32)), (.int (3 : Int32))]))
        refine Go.icmp_le C X0 (pc' := 120) d4_93 (by decide) (by decide) (fun _ => ?_) (fun hc => absurd hc (by decide))
        show Go p e below s n0 _ _ _ (T0.setTop (mkF m 120 #[.val (.ref a1), .val (.int (4 : Int32)), .val (.int (3 : Int32)), .val (.int (1 : Int32)), .val (.int (0 : Int32))] []))
        refine Go.st (fun _ => XS.iloadN X0.here C.hx rfl (hb C.hby d4_120) rfl) ?_
        show Go p e below s n0 _ _ _ (T0.setTop (mkF m 121 #[.val (.ref a1), .val (.int (4 : Int32)), .val (.int (3 : Int32)), .val (.int (1 : Int32)), .val (.int (0 : Int32))] [(.int (3 : Int32))]))
        refine Go.st (fun _ => XS.iconst X0.here C.hx rfl (hb C.hby d4_121)) ?_
        show Go p e below s n0 _ _ _ (T0.setTop (mkF m 122 #[.val (.ref a1), .val (.int (4 : Int32)), .val (.int (3 : Int32)), .val (.int (1 : Int32)), .val (.int (0 : Int32))] [(.int (4 : Int32)), (.int (3 : Int32))]))
        refine Go.icmp_le C X0 (pc' := 149) d4_122 (by decide) (by decide) (fun _ => ?_) (fun hc => absurd hc (by decide))
        show Go p e below s n0 _ _ _ (T0.setTop (mkF m 149 #[.val (.ref a1), .val (.int (4 : Int32)), .val (.int (3 : Int32)), .val (.int (1 : Int32)), .val (.int (0 : Int32))] []))
        refine Go.st (fun _ => XS.iload X0.here C.hx rfl (hb C.hby d4_149) rfl) ?_
        show Go p e below s n0 _ _ _ (T0.setTop (mkF m 151 #[.val (.ref a1), .val (.int (4 : Int32)), .val (.int (3 : Int32)), .val (.int (1 : Int32)), .val (.int (0 : Int32))] [(.int (0 : Int32))]))
        exact Go.retZ C X0 (by decide) d4_151 ⟨by simp [b2i, sameE, Esl, List.range_succ, hc23_181, hc52_190, hc81_197], rfl⟩ (by decide) (by decide)
      · show Go p e below s n0 _ _ _ (T0.setTop (mkF m 84 #[.val (.ref a1), .val (.int (4 : Int32)), .val (.int (3 : Int32)), .val (.int (1 : Int32)), .val (.int (1 : Int32))] []))
        refine Go.st (fun _ => XS.iconst X0.here C.hx rfl (hb C.hby d4_84)) ?_
        show Go p e below s n0 _ _ _ (T0.setTop (mkF m 85 #[.val (.ref a1), .val (.int (4 : Int32)), .val (.int (3 : Int32)), .val (.int (1 : Int32)), .val (.int (1 : Int32))] [(.int (1 : Int32))]))
        refine Go.st (fun _ => XS.goto X0.here C.hx rfl (pc0 := 85) (pc' := 89) rfl (hb C.hby d4_85) (by decide) (by decide)) ?_
        show Go p e below s n0 _ _ _ (T0.setTop (mkF m 89 #[.val (.ref a1), .val (.int (4 : Int32)), .val (.int (3 : Int32)), .val (.int (1 : Int32)), .val (.int (1 : Int32))] [(.int (1 : Int32))]))
        refine Go.st (fun _ => XS.istore X0.here C.hx rfl (hb C.hby d4_89) rfl (l' := #[.val (.ref a1), .val (.int (4 : Int32)), .val (.int (3 : Int32)), .val (.int (1 : Int32)), .val (.int (1 : Int32))]) rfl) ?_
        show Go p e below s n0 _ _ _ (T0.setTop (mkF m 91 #[.val (.ref a1), .val (.int (4 : Int32)), .val (.int (3 : Int32)), .val (.int (1 : Int32)), .val (.int (1 : Int32))] []))
        refine Go.st (fun _ => XS.iloadN X0.here C.hx rfl (hb C.hby d4_91) rfl) ?_
        show Go p e below s n0 _ _ _ (T0.setTop (mkF m 92 #[.val (.ref a1), .val (.int (4 : Int32)), .val (.int (3 : Int32)), .val (.int (1 : Int32)), .val (.int (1 : Int32))] [(.int (3 : Int32))]))
        refine Go.st (fun _ => XS.iconst X0.here C.hx rfl (hb C.hby d4_92)) ?_
        show Go p e below s n0 _ _ _ (T0.setTop (mkF m 93 #[.val (.ref a1), .val (.int (4 : Int32)), .val (.int (3 : Int32)), .val (.int (1 : Int32)), .val (.int (1 : Int32))] [(.int (3 : Int32)), (.int (3 : Int32))]))
        refine Go.icmp_le C X0 (pc' := 120) d4_93 (by decide) (by decide) (fun _ => ?_) (fun hc => absurd hc (by decide))
        show Go p e below s n0 _ _ _ (T0.setTop (mkF m 120 #[.val (.ref a1), .val (.int (4 : Int32)), .val (.int (3 : Int32)), .val (.int (1 : Int32)), .val (.int (1 : Int32))] []))
        refine Go.st (fun _ => XS.iloadN X0.here C.hx rfl (hb C.hby d4_120) rfl) ?_
        show Go p e below s n0 _ _ _ (T0.setTop (mkF m 121 #[.val (.ref a1), .val (.int (4 : Int32)), .val (.int (3 : Int32)), .val (.int (1 : Int32)), .val (.int (1 : Int32))] [(.int (3 : Int32))]))
        refine Go.st (fun _ => XS.iconst X0.here C.hx rfl (hb C.hby d4_121)) ?_
        show Go p e below s n0 _ _ _ (T0.setTop (mkF m 122 #[.val (.ref a1), .val (.int (4 : Int32)), .val (.int (3 : Int32)), .val (.int (1 : Int32)), .val (.int (1 : Int32))] [(.int (4 : Int32)), (.int (3 : Int32))]))
        refine Go.icmp_le C X0 (pc' := 149) d4_122 (by decide) (by decide) (fun _ => ?_) (fun hc => absurd hc (by decide))
        show Go p e below s n0 _ _ _ (T0.setTop (mkF m 149 #[.val (.ref a1), .val (.int (4 : Int32)), .val (.int (3 : Int32)), .val (.int (1 : Int32)), .val (.int (1 : Int32))] []))
        refine Go.st (fun _ => XS.iload X0.here C.hx rfl (hb C.hby d4_149) rfl) ?_
        show Go p e below s n0 _ _ _ (T0.setTop (mkF m 151 #[.val (.ref a1), .val (.int (4 : Int32)), .val (.int (3 : Int32)), .val (.int (1 : Int32)), .val (.int (1 : Int32))] [(.int (1 : Int32))]))
        exact Go.retZ C X0 (by decide) d4_151 ⟨by simp [b2i, sameE, Esl, List.range_succ, hc23_181, hc52_190, hc81_197], rfl⟩ (by decide) (by decide)
set_option maxRecDepth 65536 in
set_option maxHeartbeats 40000000 in
theorem con_same_5_1 (l : Launch) (Z : State) (a0 : Array Value) (hw : ∀ d ∈ tables_1, d.before a0 Z = true) (n0 : Nat) (h0 : Heap) (Z0 : n0 ≤ h0.size) (a1 : Addr) (sl : List Int64) (hs : sl.length = 6) (A1 : AR Z h0 a1 .long (sl.map Value.long)) :
    Con l Z (⟨"com/example/orderly_ring/orderlyring/model/SequencesExtendBordersPinLaw", "same", "([JII)Z"⟩ : MethodName) method_3_code 5 (some .boolean) [] ({ frames := 0, cells := 0, slots := 0, locals := 0 } : Room) n0 #[(.ref a1), (.int (5 : Int32)), (.int (1 : Int32))] h0 (fun v h => v = some (.int (b2i (sameE (Esl sl) 5 1))) ∧ h = h0) := by
  refine Con.mk pf_4 hw Z0 ?_
  intro p e s m below meth c T0 C X0
  have ef : entryFrame m #[(.ref a1), (.int (5 : Int32)), (.int (1 : Int32))] 5 = mkF m 0 #[.val (.ref a1), .val (.int (5 : Int32)), .val (.int (1 : Int32)), .unset, .unset] [] := by first | (simp [entryFrame, mkF, argsToLocals, Value.category]; done) | rfl
  rw [ef]
  show Go p e below s n0 _ _ _ (T0.setTop (mkF m 0 #[.val (.ref a1), .val (.int (5 : Int32)), .val (.int (1 : Int32)), .unset, .unset] []))
  refine Go.st (fun _ => XS.iloadN X0.here C.hx rfl (hb C.hby d4_0) rfl) ?_
  show Go p e below s n0 _ _ _ (T0.setTop (mkF m 1 #[.val (.ref a1), .val (.int (5 : Int32)), .val (.int (1 : Int32)), .unset, .unset] [(.int (5 : Int32))]))
  refine Go.st (fun _ => XS.iloadN X0.here C.hx rfl (hb C.hby d4_1) rfl) ?_
  show Go p e below s n0 _ _ _ (T0.setTop (mkF m 2 #[.val (.ref a1), .val (.int (5 : Int32)), .val (.int (1 : Int32)), .unset, .unset] [(.int (1 : Int32)), (.int (5 : Int32))]))
  refine Go.st (fun _ => XS.isub X0.here C.hx rfl (hb C.hby d4_2) rfl) ?_
  show Go p e below s n0 _ _ _ (T0.setTop (mkF m 3 #[.val (.ref a1), .val (.int (5 : Int32)), .val (.int (1 : Int32)), .unset, .unset] [(.int (4 : Int32))]))
  refine Go.st (fun _ => XS.istoreN X0.here C.hx rfl (hb C.hby d4_3) rfl (l' := #[.val (.ref a1), .val (.int (5 : Int32)), .val (.int (1 : Int32)), .val (.int (4 : Int32)), .unset]) rfl) ?_
  show Go p e below s n0 _ _ _ (T0.setTop (mkF m 4 #[.val (.ref a1), .val (.int (5 : Int32)), .val (.int (1 : Int32)), .val (.int (4 : Int32)), .unset] []))
  refine Go.st (fun _ => XS.iconst X0.here C.hx rfl (hb C.hby d4_4)) ?_
  show Go p e below s n0 _ _ _ (T0.setTop (mkF m 5 #[.val (.ref a1), .val (.int (5 : Int32)), .val (.int (1 : Int32)), .val (.int (4 : Int32)), .unset] [(.int (1 : Int32))]))
  refine Go.st (fun _ => XS.istore X0.here C.hx rfl (hb C.hby d4_5) rfl (l' := #[.val (.ref a1), .val (.int (5 : Int32)), .val (.int (1 : Int32)), .val (.int (4 : Int32)), .val (.int (1 : Int32))]) rfl) ?_
  show Go p e below s n0 _ _ _ (T0.setTop (mkF m 7 #[.val (.ref a1), .val (.int (5 : Int32)), .val (.int (1 : Int32)), .val (.int (4 : Int32)), .val (.int (1 : Int32))] []))
  refine Go.st (fun _ => XS.iloadN X0.here C.hx rfl (hb C.hby d4_7) rfl) ?_
  show Go p e below s n0 _ _ _ (T0.setTop (mkF m 8 #[.val (.ref a1), .val (.int (5 : Int32)), .val (.int (1 : Int32)), .val (.int (4 : Int32)), .val (.int (1 : Int32))] [(.int (1 : Int32))]))
  refine Go.if_le C X0 (pc' := 33) d4_8 (by decide) (by decide) (fun hc => absurd hc (by decide)) (fun _ => ?_)
  show Go p e below s n0 _ _ _ (T0.setTop (mkF m 11 #[.val (.ref a1), .val (.int (5 : Int32)), .val (.int (1 : Int32)), .val (.int (4 : Int32)), .val (.int (1 : Int32))] []))
  refine Go.st (fun _ => XS.iload X0.here C.hx rfl (hb C.hby d4_11) rfl) ?_
  show Go p e below s n0 _ _ _ (T0.setTop (mkF m 13 #[.val (.ref a1), .val (.int (5 : Int32)), .val (.int (1 : Int32)), .val (.int (4 : Int32)), .val (.int (1 : Int32))] [(.int (1 : Int32))]))
  refine Go.if_eq C X0 (pc' := 30) d4_13 (by decide) (by decide) (fun hc => absurd hc (by decide)) (fun _ => ?_)
  show Go p e below s n0 _ _ _ (T0.setTop (mkF m 16 #[.val (.ref a1), .val (.int (5 : Int32)), .val (.int (1 : Int32)), .val (.int (4 : Int32)), .val (.int (1 : Int32))] []))
  refine Go.st (fun _ => XS.aloadN X0.here C.hx rfl (hb C.hby d4_16) rfl rfl) ?_
  show Go p e below s n0 _ _ _ (T0.setTop (mkF m 17 #[.val (.ref a1), .val (.int (5 : Int32)), .val (.int (1 : Int32)), .val (.int (4 : Int32)), .val (.int (1 : Int32))] [(.ref a1)]))
  refine Go.st (fun _ => XS.iconst X0.here C.hx rfl (hb C.hby d4_17)) ?_
  show Go p e below s n0 _ _ _ (T0.setTop (mkF m 18 #[.val (.ref a1), .val (.int (5 : Int32)), .val (.int (1 : Int32)), .val (.int (4 : Int32)), .val (.int (1 : Int32))] [(.int (0 : Int32)), (.ref a1)]))
  refine Go.laload C X0 A1 (by decide) (getL (i := 0) hs (by decide)) d4_18 ?_
  show Go p e below s n0 _ _ _ (T0.setTop (mkF m 19 #[.val (.ref a1), .val (.int (5 : Int32)), .val (.int (1 : Int32)), .val (.int (4 : Int32)), .val (.int (1 : Int32))] [(.long (el sl 0))]))
  refine Go.st (fun _ => XS.aloadN X0.here C.hx rfl (hb C.hby d4_19) rfl rfl) ?_
  show Go p e below s n0 _ _ _ (T0.setTop (mkF m 20 #[.val (.ref a1), .val (.int (5 : Int32)), .val (.int (1 : Int32)), .val (.int (4 : Int32)), .val (.int (1 : Int32))] [(.ref a1), (.long (el sl 0))]))
  refine Go.st (fun _ => XS.iloadN X0.here C.hx rfl (hb C.hby d4_20) rfl) ?_
  show Go p e below s n0 _ _ _ (T0.setTop (mkF m 21 #[.val (.ref a1), .val (.int (5 : Int32)), .val (.int (1 : Int32)), .val (.int (4 : Int32)), .val (.int (1 : Int32))] [(.int (4 : Int32)), (.ref a1), (.long (el sl 0))]))
  refine Go.laload C X0 A1 (by decide) (getL (i := 4) hs (by decide)) d4_21 ?_
  show Go p e below s n0 _ _ _ (T0.setTop (mkF m 22 #[.val (.ref a1), .val (.int (5 : Int32)), .val (.int (1 : Int32)), .val (.int (4 : Int32)), .val (.int (1 : Int32))] [(.long (el sl 4)), (.long (el sl 0))]))
  refine Go.st (fun _ => XS.lcmp X0.here C.hx rfl (hb C.hby d4_22) rfl) ?_
  show Go p e below s n0 _ _ _ (T0.setTop (mkF m 23 #[.val (.ref a1), .val (.int (5 : Int32)), .val (.int (1 : Int32)), .val (.int (4 : Int32)), .val (.int (1 : Int32))] [(.int (lcmpW (el sl 0) (el sl 4)))]))
  refine Go.lif_ne C X0 (pc' := 30) d4_23 (by decide) (by decide) (fun hc23_204 => ?_) (fun hc23_204 => ?_)
  · show Go p e below s n0 _ _ _ (T0.setTop (mkF m 30 #[.val (.ref a1), .val (.int (5 : Int32)), .val (.int (1 : Int32)), .val (.int (4 : Int32)), .val (.int (1 : Int32))] []))
    refine Go.st (fun _ => XS.iconst X0.here C.hx rfl (hb C.hby d4_30)) ?_
    show Go p e below s n0 _ _ _ (T0.setTop (mkF m 31 #[.val (.ref a1), .val (.int (5 : Int32)), .val (.int (1 : Int32)), .val (.int (4 : Int32)), .val (.int (1 : Int32))] [(.int (0 : Int32))]))
    refine Go.st (fun _ => XS.istore X0.here C.hx rfl (hb C.hby d4_31) rfl (l' := #[.val (.ref a1), .val (.int (5 : Int32)), .val (.int (1 : Int32)), .val (.int (4 : Int32)), .val (.int (0 : Int32))]) rfl) ?_
    show Go p e below s n0 _ _ _ (T0.setTop (mkF m 33 #[.val (.ref a1), .val (.int (5 : Int32)), .val (.int (1 : Int32)), .val (.int (4 : Int32)), .val (.int (0 : Int32))] []))
    refine Go.st (fun _ => XS.iloadN X0.here C.hx rfl (hb C.hby d4_33) rfl) ?_
    show Go p e below s n0 _ _ _ (T0.setTop (mkF m 34 #[.val (.ref a1), .val (.int (5 : Int32)), .val (.int (1 : Int32)), .val (.int (4 : Int32)), .val (.int (0 : Int32))] [(.int (1 : Int32))]))
    refine Go.st (fun _ => XS.iconst X0.here C.hx rfl (hb C.hby d4_34)) ?_
    show Go p e below s n0 _ _ _ (T0.setTop (mkF m 35 #[.val (.ref a1), .val (.int (5 : Int32)), .val (.int (1 : Int32)), .val (.int (4 : Int32)), .val (.int (0 : Int32))] [(.int (1 : Int32)), (.int (1 : Int32))]))
    refine Go.icmp_le C X0 (pc' := 62) d4_35 (by decide) (by decide) (fun _ => ?_) (fun hc => absurd hc (by decide))
    show Go p e below s n0 _ _ _ (T0.setTop (mkF m 62 #[.val (.ref a1), .val (.int (5 : Int32)), .val (.int (1 : Int32)), .val (.int (4 : Int32)), .val (.int (0 : Int32))] []))
    refine Go.st (fun _ => XS.iloadN X0.here C.hx rfl (hb C.hby d4_62) rfl) ?_
    show Go p e below s n0 _ _ _ (T0.setTop (mkF m 63 #[.val (.ref a1), .val (.int (5 : Int32)), .val (.int (1 : Int32)), .val (.int (4 : Int32)), .val (.int (0 : Int32))] [(.int (1 : Int32))]))
    refine Go.st (fun _ => XS.iconst X0.here C.hx rfl (hb C.hby d4_63)) ?_
    show Go p e below s n0 _ _ _ (T0.setTop (mkF m 64 #[.val (.ref a1), .val (.int (5 : Int32)), .val (.int (1 : Int32)), .val (.int (4 : Int32)), .val (.int (0 : Int32))] [(.int (2 : Int32)), (.int (1 : Int32))]))
    refine Go.icmp_le C X0 (pc' := 91) d4_64 (by decide) (by decide) (fun _ => ?_) (fun hc => absurd hc (by decide))
    show Go p e below s n0 _ _ _ (T0.setTop (mkF m 91 #[.val (.ref a1), .val (.int (5 : Int32)), .val (.int (1 : Int32)), .val (.int (4 : Int32)), .val (.int (0 : Int32))] []))
    refine Go.st (fun _ => XS.iloadN X0.here C.hx rfl (hb C.hby d4_91) rfl) ?_
    show Go p e below s n0 _ _ _ (T0.setTop (mkF m 92 #[.val (.ref a1), .val (.int (5 : Int32)), .val (.int (1 : Int32)), .val (.int (4 : Int32)), .val (.int (0 : Int32))] [(.int (1 : Int32))]))
    refine Go.st (fun _ => XS.iconst X0.here C.hx rfl (hb C.hby d4_92)) ?_
    show Go p e below s n0 _ _ _ (T0.setTop (mkF m 93 #[.val (.ref a1), .val (.int (5 : Int32)), .val (.int (1 : Int32)), .val (.int (4 : Int32)), .val (.int (0 : Int32))] [(.int (3 : Int32)), (.int (1 : Int32))]))
    refine Go.icmp_le C X0 (pc' := 120) d4_93 (by decide) (by decide) (fun _ => ?_) (fun hc => absurd hc (by decide))
    show Go p e below s n0 _ _ _ (T0.setTop (mkF m 120 #[.val (.ref a1), .val (.int (5 : Int32)), .val (.int (1 : Int32)), .val (.int (4 : Int32)), .val (.int (0 : Int32))] []))
    refine Go.st (fun _ => XS.iloadN X0.here C.hx rfl (hb C.hby d4_120) rfl) ?_
    show Go p e below s n0 _ _ _ (T0.setTop (mkF m 121 #[.val (.ref a1), .val (.int (5 : Int32)), .val (.int (1 : Int32)), .val (.int (4 : Int32)), .val (.int (0 : Int32))] [(.int (1 : Int32))]))
    refine Go.st (fun _ => XS.iconst X0.here C.hx rfl (hb C.hby d4_121)) ?_
    show Go p e below s n0 _ _ _ (T0.setTop (mkF m 122 #[.val (.ref a1), .val (.int (5 : Int32)), .val (.int (1 : Int32)), .val (.int (4 : Int32)), .val (.int (0 : Int32))] [(.int (4 : Int32)), (.int (1 : Int32))]))
    refine Go.icmp_le C X0 (pc' := 149) d4_122 (by decide) (by decide) (fun _ => ?_) (fun hc => absurd hc (by decide))
    show Go p e below s n0 _ _ _ (T0.setTop (mkF m 149 #[.val (.ref a1), .val (.int (5 : Int32)), .val (.int (1 : Int32)), .val (.int (4 : Int32)), .val (.int (0 : Int32))] []))
    refine Go.st (fun _ => XS.iload X0.here C.hx rfl (hb C.hby d4_149) rfl) ?_
    show Go p e below s n0 _ _ _ (T0.setTop (mkF m 151 #[.val (.ref a1), .val (.int (5 : Int32)), .val (.int (1 : Int32)), .val (.int (4 : Int32)), .val (.int (0 : Int32))] [(.int (0 : Int32))]))
    exact Go.retZ C X0 (by decide) d4_151 ⟨by simp [b2i, sameE, Esl, List.range_succ, hc23_204], rfl⟩ (by decide) (by decide)
  · show Go p e below s n0 _ _ _ (T0.setTop (mkF m 26 #[.val (.ref a1), .val (.int (5 : Int32)), .val (.int (1 : Int32)), .val (.int (4 : Int32)), .val (.int (1 : Int32))] []))
    refine Go.st (fun _ => XS.iconst X0.here C.hx rfl (hb C.hby d4_26)) ?_
    show Go p e below s n0 _ _ _ (T0.setTop (mkF m 27 #[.val (.ref a1), .val (.int (5 : Int32)), .val (.int (1 : Int32)), .val (.int (4 : Int32)), .val (.int (1 : Int32))] [(.int (1 : Int32))]))
    refine Go.st (fun _ => XS.goto X0.here C.hx rfl (pc0 := 27) (pc' := 31) rfl (hb C.hby d4_27) (by decide) (by decide)) ?_
    show Go p e below s n0 _ _ _ (T0.setTop (mkF m 31 #[.val (.ref a1), .val (.int (5 : Int32)), .val (.int (1 : Int32)), .val (.int (4 : Int32)), .val (.int (1 : Int32))] [(.int (1 : Int32))]))
    refine Go.st (fun _ => XS.istore X0.here C.hx rfl (hb C.hby d4_31) rfl (l' := #[.val (.ref a1), .val (.int (5 : Int32)), .val (.int (1 : Int32)), .val (.int (4 : Int32)), .val (.int (1 : Int32))]) rfl) ?_
    show Go p e below s n0 _ _ _ (T0.setTop (mkF m 33 #[.val (.ref a1), .val (.int (5 : Int32)), .val (.int (1 : Int32)), .val (.int (4 : Int32)), .val (.int (1 : Int32))] []))
    refine Go.st (fun _ => XS.iloadN X0.here C.hx rfl (hb C.hby d4_33) rfl) ?_
    show Go p e below s n0 _ _ _ (T0.setTop (mkF m 34 #[.val (.ref a1), .val (.int (5 : Int32)), .val (.int (1 : Int32)), .val (.int (4 : Int32)), .val (.int (1 : Int32))] [(.int (1 : Int32))]))
    refine Go.st (fun _ => XS.iconst X0.here C.hx rfl (hb C.hby d4_34)) ?_
    show Go p e below s n0 _ _ _ (T0.setTop (mkF m 35 #[.val (.ref a1), .val (.int (5 : Int32)), .val (.int (1 : Int32)), .val (.int (4 : Int32)), .val (.int (1 : Int32))] [(.int (1 : Int32)), (.int (1 : Int32))]))
    refine Go.icmp_le C X0 (pc' := 62) d4_35 (by decide) (by decide) (fun _ => ?_) (fun hc => absurd hc (by decide))
    show Go p e below s n0 _ _ _ (T0.setTop (mkF m 62 #[.val (.ref a1), .val (.int (5 : Int32)), .val (.int (1 : Int32)), .val (.int (4 : Int32)), .val (.int (1 : Int32))] []))
    refine Go.st (fun _ => XS.iloadN X0.here C.hx rfl (hb C.hby d4_62) rfl) ?_
    show Go p e below s n0 _ _ _ (T0.setTop (mkF m 63 #[.val (.ref a1), .val (.int (5 : Int32)), .val (.int (1 : Int32)), .val (.int (4 : Int32)), .val (.int (1 : Int32))] [(.int (1 : Int32))]))
    refine Go.st (fun _ => XS.iconst X0.here C.hx rfl (hb C.hby d4_63)) ?_
    show Go p e below s n0 _ _ _ (T0.setTop (mkF m 64 #[.val (.ref a1), .val (.int (5 : Int32)), .val (.int (1 : Int32)), .val (.int (4 : Int32)), .val (.int (1 : Int32))] [(.int (2 : Int32)), (.int (1 : Int32))]))
    refine Go.icmp_le C X0 (pc' := 91) d4_64 (by decide) (by decide) (fun _ => ?_) (fun hc => absurd hc (by decide))
    show Go p e below s n0 _ _ _ (T0.setTop (mkF m 91 #[.val (.ref a1), .val (.int (5 : Int32)), .val (.int (1 : Int32)), .val (.int (4 : Int32)), .val (.int (1 : Int32))] []))
    refine Go.st (fun _ => XS.iloadN X0.here C.hx rfl (hb C.hby d4_91) rfl) ?_
    show Go p e below s n0 _ _ _ (T0.setTop (mkF m 92 #[.val (.ref a1), .val (.int (5 : Int32)), .val (.int (1 : Int32)), .val (.int (4 : Int32)), .val (.int (1 : Int32))] [(.int (1 : Int32))]))
    refine Go.st (fun _ => XS.iconst X0.here C.hx rfl (hb C.hby d4_92)) ?_
    show Go p e below s n0 _ _ _ (T0.setTop (mkF m 93 #[.val (.ref a1), .val (.int (5 : Int32)), .val (.int (1 : Int32)), .val (.int (4 : Int32)), .val (.int (1 : Int32))] [(.int (3 : Int32)), (.int (1 : Int32))]))
    refine Go.icmp_le C X0 (pc' := 120) d4_93 (by decide) (by decide) (fun _ => ?_) (fun hc => absurd hc (by decide))
    show Go p e below s n0 _ _ _ (T0.setTop (mkF m 120 #[.val (.ref a1), .val (.int (5 : Int32)), .val (.int (1 : Int32)), .val (.int (4 : Int32)), .val (.int (1 : Int32))] []))
    refine Go.st (fun _ => XS.iloadN X0.here C.hx rfl (hb C.hby d4_120) rfl) ?_
    show Go p e below s n0 _ _ _ (T0.setTop (mkF m 121 #[.val (.ref a1), .val (.int (5 : Int32)), .val (.int (1 : Int32)), .val (.int (4 : Int32)), .val (.int (1 : Int32))] [(.int (1 : Int32))]))
    refine Go.st (fun _ => XS.iconst X0.here C.hx rfl (hb C.hby d4_121)) ?_
    show Go p e below s n0 _ _ _ (T0.setTop (mkF m 122 #[.val (.ref a1), .val (.int (5 : Int32)), .val (.int (1 : Int32)), .val (.int (4 : Int32)), .val (.int (1 : Int32))] [(.int (4 : Int32)), (.int (1 : Int32))]))
    refine Go.icmp_le C X0 (pc' := 149) d4_122 (by decide) (by decide) (fun _ => ?_) (fun hc => absurd hc (by decide))
    show Go p e below s n0 _ _ _ (T0.setTop (mkF m 149 #[.val (.ref a1), .val (.int (5 : Int32)), .val (.int (1 : Int32)), .val (.int (4 : Int32)), .val (.int (1 : Int32))] []))
    refine Go.st (fun _ => XS.iload X0.here C.hx rfl (hb C.hby d4_149) rfl) ?_
    show Go p e below s n0 _ _ _ (T0.setTop (mkF m 151 #[.val (.ref a1), .val (.int (5 : Int32)), .val (.int (1 : Int32)), .val (.int (4 : Int32)), .val (.int (1 : Int32))] [(.int (1 : Int32))]))
    exact Go.retZ C X0 (by decide) d4_151 ⟨by simp [b2i, sameE, Esl, List.range_succ, hc23_204], rfl⟩ (by decide) (by decide)
set_option maxRecDepth 65536 in
set_option maxHeartbeats 40000000 in
theorem con_same_5_2 (l : Launch) (Z : State) (a0 : Array Value) (hw : ∀ d ∈ tables_1, d.before a0 Z = true) (n0 : Nat) (h0 : Heap) (Z0 : n0 ≤ h0.size) (a1 : Addr) (sl : List Int64) (hs : sl.length = 6) (A1 : AR Z h0 a1 .long (sl.map Value.long)) :
    Con l Z (⟨"com/example/orderly_ring/orderlyring/model/SequencesExtendBordersPinLaw", "same", "([JII)Z"⟩ : MethodName) method_3_code 5 (some .boolean) [] ({ frames := 0, cells := 0, slots := 0, locals := 0 } : Room) n0 #[(.ref a1), (.int (5 : Int32)), (.int (2 : Int32))] h0 (fun v h => v = some (.int (b2i (sameE (Esl sl) 5 2))) ∧ h = h0) := by
  refine Con.mk pf_4 hw Z0 ?_
  intro p e s m below meth c T0 C X0
  have ef : entryFrame m #[(.ref a1), (.int (5 : Int32)), (.int (2 : Int32))] 5 = mkF m 0 #[.val (.ref a1), .val (.int (5 : Int32)), .val (.int (2 : Int32)), .unset, .unset] [] := by first | (simp [entryFrame, mkF, argsToLocals, Value.category]; done) | rfl
  rw [ef]
  show Go p e below s n0 _ _ _ (T0.setTop (mkF m 0 #[.val (.ref a1), .val (.int (5 : Int32)), .val (.int (2 : Int32)), .unset, .unset] []))
  refine Go.st (fun _ => XS.iloadN X0.here C.hx rfl (hb C.hby d4_0) rfl) ?_
  show Go p e below s n0 _ _ _ (T0.setTop (mkF m 1 #[.val (.ref a1), .val (.int (5 : Int32)), .val (.int (2 : Int32)), .unset, .unset] [(.int (5 : Int32))]))
  refine Go.st (fun _ => XS.iloadN X0.here C.hx rfl (hb C.hby d4_1) rfl) ?_
  show Go p e below s n0 _ _ _ (T0.setTop (mkF m 2 #[.val (.ref a1), .val (.int (5 : Int32)), .val (.int (2 : Int32)), .unset, .unset] [(.int (2 : Int32)), (.int (5 : Int32))]))
  refine Go.st (fun _ => XS.isub X0.here C.hx rfl (hb C.hby d4_2) rfl) ?_
  show Go p e below s n0 _ _ _ (T0.setTop (mkF m 3 #[.val (.ref a1), .val (.int (5 : Int32)), .val (.int (2 : Int32)), .unset, .unset] [(.int (3 : Int32))]))
  refine Go.st (fun _ => XS.istoreN X0.here C.hx rfl (hb C.hby d4_3) rfl (l' := #[.val (.ref a1), .val (.int (5 : Int32)), .val (.int (2 : Int32)), .val (.int (3 : Int32)), .unset]) rfl) ?_
  show Go p e below s n0 _ _ _ (T0.setTop (mkF m 4 #[.val (.ref a1), .val (.int (5 : Int32)), .val (.int (2 : Int32)), .val (.int (3 : Int32)), .unset] []))
  refine Go.st (fun _ => XS.iconst X0.here C.hx rfl (hb C.hby d4_4)) ?_
  show Go p e below s n0 _ _ _ (T0.setTop (mkF m 5 #[.val (.ref a1), .val (.int (5 : Int32)), .val (.int (2 : Int32)), .val (.int (3 : Int32)), .unset] [(.int (1 : Int32))]))
  refine Go.st (fun _ => XS.istore X0.here C.hx rfl (hb C.hby d4_5) rfl (l' := #[.val (.ref a1), .val (.int (5 : Int32)), .val (.int (2 : Int32)), .val (.int (3 : Int32)), .val (.int (1 : Int32))]) rfl) ?_
  show Go p e below s n0 _ _ _ (T0.setTop (mkF m 7 #[.val (.ref a1), .val (.int (5 : Int32)), .val (.int (2 : Int32)), .val (.int (3 : Int32)), .val (.int (1 : Int32))] []))
  refine Go.st (fun _ => XS.iloadN X0.here C.hx rfl (hb C.hby d4_7) rfl) ?_
  show Go p e below s n0 _ _ _ (T0.setTop (mkF m 8 #[.val (.ref a1), .val (.int (5 : Int32)), .val (.int (2 : Int32)), .val (.int (3 : Int32)), .val (.int (1 : Int32))] [(.int (2 : Int32))]))
  refine Go.if_le C X0 (pc' := 33) d4_8 (by decide) (by decide) (fun hc => absurd hc (by decide)) (fun _ => ?_)
  show Go p e below s n0 _ _ _ (T0.setTop (mkF m 11 #[.val (.ref a1), .val (.int (5 : Int32)), .val (.int (2 : Int32)), .val (.int (3 : Int32)), .val (.int (1 : Int32))] []))
  refine Go.st (fun _ => XS.iload X0.here C.hx rfl (hb C.hby d4_11) rfl) ?_
  show Go p e below s n0 _ _ _ (T0.setTop (mkF m 13 #[.val (.ref a1), .val (.int (5 : Int32)), .val (.int (2 : Int32)), .val (.int (3 : Int32)), .val (.int (1 : Int32))] [(.int (1 : Int32))]))
  refine Go.if_eq C X0 (pc' := 30) d4_13 (by decide) (by decide) (fun hc => absurd hc (by decide)) (fun _ => ?_)
  show Go p e below s n0 _ _ _ (T0.setTop (mkF m 16 #[.val (.ref a1), .val (.int (5 : Int32)), .val (.int (2 : Int32)), .val (.int (3 : Int32)), .val (.int (1 : Int32))] []))
  refine Go.st (fun _ => XS.aloadN X0.here C.hx rfl (hb C.hby d4_16) rfl rfl) ?_
  show Go p e below s n0 _ _ _ (T0.setTop (mkF m 17 #[.val (.ref a1), .val (.int (5 : Int32)), .val (.int (2 : Int32)), .val (.int (3 : Int32)), .val (.int (1 : Int32))] [(.ref a1)]))
  refine Go.st (fun _ => XS.iconst X0.here C.hx rfl (hb C.hby d4_17)) ?_
  show Go p e below s n0 _ _ _ (T0.setTop (mkF m 18 #[.val (.ref a1), .val (.int (5 : Int32)), .val (.int (2 : Int32)), .val (.int (3 : Int32)), .val (.int (1 : Int32))] [(.int (0 : Int32)), (.ref a1)]))
  refine Go.laload C X0 A1 (by decide) (getL (i := 0) hs (by decide)) d4_18 ?_
  show Go p e below s n0 _ _ _ (T0.setTop (mkF m 19 #[.val (.ref a1), .val (.int (5 : Int32)), .val (.int (2 : Int32)), .val (.int (3 : Int32)), .val (.int (1 : Int32))] [(.long (el sl 0))]))
  refine Go.st (fun _ => XS.aloadN X0.here C.hx rfl (hb C.hby d4_19) rfl rfl) ?_
  show Go p e below s n0 _ _ _ (T0.setTop (mkF m 20 #[.val (.ref a1), .val (.int (5 : Int32)), .val (.int (2 : Int32)), .val (.int (3 : Int32)), .val (.int (1 : Int32))] [(.ref a1), (.long (el sl 0))]))
  refine Go.st (fun _ => XS.iloadN X0.here C.hx rfl (hb C.hby d4_20) rfl) ?_
  show Go p e below s n0 _ _ _ (T0.setTop (mkF m 21 #[.val (.ref a1), .val (.int (5 : Int32)), .val (.int (2 : Int32)), .val (.int (3 : Int32)), .val (.int (1 : Int32))] [(.int (3 : Int32)), (.ref a1), (.long (el sl 0))]))
  refine Go.laload C X0 A1 (by decide) (getL (i := 3) hs (by decide)) d4_21 ?_
  show Go p e below s n0 _ _ _ (T0.setTop (mkF m 22 #[.val (.ref a1), .val (.int (5 : Int32)), .val (.int (2 : Int32)), .val (.int (3 : Int32)), .val (.int (1 : Int32))] [(.long (el sl 3)), (.long (el sl 0))]))
  refine Go.st (fun _ => XS.lcmp X0.here C.hx rfl (hb C.hby d4_22) rfl) ?_
  show Go p e below s n0 _ _ _ (T0.setTop (mkF m 23 #[.val (.ref a1), .val (.int (5 : Int32)), .val (.int (2 : Int32)), .val (.int (3 : Int32)), .val (.int (1 : Int32))] [(.int (lcmpW (el sl 0) (el sl 3)))]))
  refine Go.lif_ne C X0 (pc' := 30) d4_23 (by decide) (by decide) (fun hc23_215 => ?_) (fun hc23_215 => ?_)
  · show Go p e below s n0 _ _ _ (T0.setTop (mkF m 30 #[.val (.ref a1), .val (.int (5 : Int32)), .val (.int (2 : Int32)), .val (.int (3 : Int32)), .val (.int (1 : Int32))] []))
    refine Go.st (fun _ => XS.iconst X0.here C.hx rfl (hb C.hby d4_30)) ?_
    show Go p e below s n0 _ _ _ (T0.setTop (mkF m 31 #[.val (.ref a1), .val (.int (5 : Int32)), .val (.int (2 : Int32)), .val (.int (3 : Int32)), .val (.int (1 : Int32))] [(.int (0 : Int32))]))
    refine Go.st (fun _ => XS.istore X0.here C.hx rfl (hb C.hby d4_31) rfl (l' := #[.val (.ref a1), .val (.int (5 : Int32)), .val (.int (2 : Int32)), .val (.int (3 : Int32)), .val (.int (0 : Int32))]) rfl) ?_
    show Go p e below s n0 _ _ _ (T0.setTop (mkF m 33 #[.val (.ref a1), .val (.int (5 : Int32)), .val (.int (2 : Int32)), .val (.int (3 : Int32)), .val (.int (0 : Int32))] []))
    refine Go.st (fun _ => XS.iloadN X0.here C.hx rfl (hb C.hby d4_33) rfl) ?_
    show Go p e below s n0 _ _ _ (T0.setTop (mkF m 34 #[.val (.ref a1), .val (.int (5 : Int32)), .val (.int (2 : Int32)), .val (.int (3 : Int32)), .val (.int (0 : Int32))] [(.int (2 : Int32))]))
    refine Go.st (fun _ => XS.iconst X0.here C.hx rfl (hb C.hby d4_34)) ?_
    show Go p e below s n0 _ _ _ (T0.setTop (mkF m 35 #[.val (.ref a1), .val (.int (5 : Int32)), .val (.int (2 : Int32)), .val (.int (3 : Int32)), .val (.int (0 : Int32))] [(.int (1 : Int32)), (.int (2 : Int32))]))
    refine Go.icmp_le C X0 (pc' := 62) d4_35 (by decide) (by decide) (fun hc => absurd hc (by decide)) (fun _ => ?_)
    show Go p e below s n0 _ _ _ (T0.setTop (mkF m 38 #[.val (.ref a1), .val (.int (5 : Int32)), .val (.int (2 : Int32)), .val (.int (3 : Int32)), .val (.int (0 : Int32))] []))
    refine Go.st (fun _ => XS.iload X0.here C.hx rfl (hb C.hby d4_38) rfl) ?_
    show Go p e below s n0 _ _ _ (T0.setTop (mkF m 40 #[.val (.ref a1), .val (.int (5 : Int32)), .val (.int (2 : Int32)), .val (.int (3 : Int32)), .val (.int (0 : Int32))] [(.int (0 : Int32))]))
    refine Go.if_eq C X0 (pc' := 59) d4_40 (by decide) (by decide) (fun _ => ?_) (fun hc => absurd hc (by decide))
    show Go p e below s n0 _ _ _ (T0.setTop (mkF m 59 #[.val (.ref a1), .val (.int (5 : Int32)), .val (.int (2 : Int32)), .val (.int (3 : Int32)), .val (.int (0 : Int32))] []))
    refine Go.st (fun _ => XS.iconst X0.here C.hx rfl (hb C.hby d4_59)) ?_
    show Go p e below s n0 _ _ _ (T0.setTop (mkF m 60 #[.val (.ref a1), .val (.int (5 : Int32)), .val (.int (2 : Int32)), .val (.int (3 : Int32)), .val (.int (0 : Int32))] [(.int (0 : Int32))]))
    refine Go.st (fun _ => XS.istore X0.here C.hx rfl (hb C.hby d4_60) rfl (l' := #[.val (.ref a1), .val (.int (5 : Int32)), .val (.int (2 : Int32)), .val (.int (3 : Int32)), .val (.int (0 : Int32))]) rfl) ?_
    show Go p e below s n0 _ _ _ (T0.setTop (mkF m 62 #[.val (.ref a1), .val (.int (5 : Int32)), .val (.int (2 : Int32)), .val (.int (3 : Int32)), .val (.int (0 : Int32))] []))
    refine Go.st (fun _ => XS.iloadN X0.here C.hx rfl (hb C.hby d4_62) rfl) ?_
    show Go p e below s n0 _ _ _ (T0.setTop (mkF m 63 #[.val (.ref a1), .val (.int (5 : Int32)), .val (.int (2 : Int32)), .val (.int (3 : Int32)), .val (.int (0 : Int32))] [(.int (2 : Int32))]))
    refine Go.st (fun _ => XS.iconst X0.here C.hx rfl (hb C.hby d4_63)) ?_
    show Go p e below s n0 _ _ _ (T0.setTop (mkF m 64 #[.val (.ref a1), .val (.int (5 : Int32)), .val (.int (2 : Int32)), .val (.int (3 : Int32)), .val (.int (0 : Int32))] [(.int (2 : Int32)), (.int (2 : Int32))]))
    refine Go.icmp_le C X0 (pc' := 91) d4_64 (by decide) (by decide) (fun _ => ?_) (fun hc => absurd hc (by decide))
    show Go p e below s n0 _ _ _ (T0.setTop (mkF m 91 #[.val (.ref a1), .val (.int (5 : Int32)), .val (.int (2 : Int32)), .val (.int (3 : Int32)), .val (.int (0 : Int32))] []))
    refine Go.st (fun _ => XS.iloadN X0.here C.hx rfl (hb C.hby d4_91) rfl) ?_
    show Go p e below s n0 _ _ _ (T0.setTop (mkF m 92 #[.val (.ref a1), .val (.int (5 : Int32)), .val (.int (2 : Int32)), .val (.int (3 : Int32)), .val (.int (0 : Int32))] [(.int (2 : Int32))]))
    refine Go.st (fun _ => XS.iconst X0.here C.hx rfl (hb C.hby d4_92)) ?_
    show Go p e below s n0 _ _ _ (T0.setTop (mkF m 93 #[.val (.ref a1), .val (.int (5 : Int32)), .val (.int (2 : Int32)), .val (.int (3 : Int32)), .val (.int (0 : Int32))] [(.int (3 : Int32)), (.int (2 : Int32))]))
    refine Go.icmp_le C X0 (pc' := 120) d4_93 (by decide) (by decide) (fun _ => ?_) (fun hc => absurd hc (by decide))
    show Go p e below s n0 _ _ _ (T0.setTop (mkF m 120 #[.val (.ref a1), .val (.int (5 : Int32)), .val (.int (2 : Int32)), .val (.int (3 : Int32)), .val (.int (0 : Int32))] []))
    refine Go.st (fun _ => XS.iloadN X0.here C.hx rfl (hb C.hby d4_120) rfl) ?_
    show Go p e below s n0 _ _ _ (T0.setTop (mkF m 121 #[.val (.ref a1), .val (.int (5 : Int32)), .val (.int (2 : Int32)), .val (.int (3 : Int32)), .val (.int (0 : Int32))] [(.int (2 : Int32))]))
    refine Go.st (fun _ => XS.iconst X0.here C.hx rfl (hb C.hby d4_121)) ?_
    show Go p e below s n0 _ _ _ (T0.setTop (mkF m 122 #[.val (.ref a1), .val (.int (5 : Int32)), .val (.int (2 : Int32)), .val (.int (3 : Int32)), .val (.int (0 : Int32))] [(.int (4 : Int32)), (.int (2 : Int32))]))
    refine Go.icmp_le C X0 (pc' := 149) d4_122 (by decide) (by decide) (fun _ => ?_) (fun hc => absurd hc (by decide))
    show Go p e below s n0 _ _ _ (T0.setTop (mkF m 149 #[.val (.ref a1), .val (.int (5 : Int32)), .val (.int (2 : Int32)), .val (.int (3 : Int32)), .val (.int (0 : Int32))] []))
    refine Go.st (fun _ => XS.iload X0.here C.hx rfl (hb C.hby d4_149) rfl) ?_
    show Go p e below s n0 _ _ _ (T0.setTop (mkF m 151 #[.val (.ref a1), .val (.int (5 : Int32)), .val (.int (2 : Int32)), .val (.int (3 : Int32)), .val (.int (0 : Int32))] [(.int (0 : Int32))]))
    exact Go.retZ C X0 (by decide) d4_151 ⟨by simp [b2i, sameE, Esl, List.range_succ, hc23_215], rfl⟩ (by decide) (by decide)
  · show Go p e below s n0 _ _ _ (T0.setTop (mkF m 26 #[.val (.ref a1), .val (.int (5 : Int32)), .val (.int (2 : Int32)), .val (.int (3 : Int32)), .val (.int (1 : Int32))] []))
    refine Go.st (fun _ => XS.iconst X0.here C.hx rfl (hb C.hby d4_26)) ?_
    show Go p e below s n0 _ _ _ (T0.setTop (mkF m 27 #[.val (.ref a1), .val (.int (5 : Int32)), .val (.int (2 : Int32)), .val (.int (3 : Int32)), .val (.int (1 : Int32))] [(.int (1 : Int32))]))
    refine Go.st (fun _ => XS.goto X0.here C.hx rfl (pc0 := 27) (pc' := 31) rfl (hb C.hby d4_27) (by decide) (by decide)) ?_
    show Go p e below s n0 _ _ _ (T0.setTop (mkF m 31 #[.val (.ref a1), .val (.int (5 : Int32)), .val (.int (2 : Int32)), .val (.int (3 : Int32)), .val (.int (1 : Int32))] [(.int (1 : Int32))]))
    refine Go.st (fun _ => XS.istore X0.here C.hx rfl (hb C.hby d4_31) rfl (l' := #[.val (.ref a1), .val (.int (5 : Int32)), .val (.int (2 : Int32)), .val (.int (3 : Int32)), .val (.int (1 : Int32))]) rfl) ?_
    show Go p e below s n0 _ _ _ (T0.setTop (mkF m 33 #[.val (.ref a1), .val (.int (5 : Int32)), .val (.int (2 : Int32)), .val (.int (3 : Int32)), .val (.int (1 : Int32))] []))
    refine Go.st (fun _ => XS.iloadN X0.here C.hx rfl (hb C.hby d4_33) rfl) ?_
    show Go p e below s n0 _ _ _ (T0.setTop (mkF m 34 #[.val (.ref a1), .val (.int (5 : Int32)), .val (.int (2 : Int32)), .val (.int (3 : Int32)), .val (.int (1 : Int32))] [(.int (2 : Int32))]))
    refine Go.st (fun _ => XS.iconst X0.here C.hx rfl (hb C.hby d4_34)) ?_
    show Go p e below s n0 _ _ _ (T0.setTop (mkF m 35 #[.val (.ref a1), .val (.int (5 : Int32)), .val (.int (2 : Int32)), .val (.int (3 : Int32)), .val (.int (1 : Int32))] [(.int (1 : Int32)), (.int (2 : Int32))]))
    refine Go.icmp_le C X0 (pc' := 62) d4_35 (by decide) (by decide) (fun hc => absurd hc (by decide)) (fun _ => ?_)
    show Go p e below s n0 _ _ _ (T0.setTop (mkF m 38 #[.val (.ref a1), .val (.int (5 : Int32)), .val (.int (2 : Int32)), .val (.int (3 : Int32)), .val (.int (1 : Int32))] []))
    refine Go.st (fun _ => XS.iload X0.here C.hx rfl (hb C.hby d4_38) rfl) ?_
    show Go p e below s n0 _ _ _ (T0.setTop (mkF m 40 #[.val (.ref a1), .val (.int (5 : Int32)), .val (.int (2 : Int32)), .val (.int (3 : Int32)), .val (.int (1 : Int32))] [(.int (1 : Int32))]))
    refine Go.if_eq C X0 (pc' := 59) d4_40 (by decide) (by decide) (fun hc => absurd hc (by decide)) (fun _ => ?_)
    show Go p e below s n0 _ _ _ (T0.setTop (mkF m 43 #[.val (.ref a1), .val (.int (5 : Int32)), .val (.int (2 : Int32)), .val (.int (3 : Int32)), .val (.int (1 : Int32))] []))
    refine Go.st (fun _ => XS.aloadN X0.here C.hx rfl (hb C.hby d4_43) rfl rfl) ?_
    show Go p e below s n0 _ _ _ (T0.setTop (mkF m 44 #[.val (.ref a1), .val (.int (5 : Int32)), .val (.int (2 : Int32)), .val (.int (3 : Int32)), .val (.int (1 : Int32))] [(.ref a1)]))
    refine Go.st (fun _ => XS.iconst X0.here C.hx rfl (hb C.hby d4_44)) ?_
    show Go p e below s n0 _ _ _ (T0.setTop (mkF m 45 #[.val (.ref a1), .val (.int (5 : Int32)), .val (.int (2 : Int32)), .val (.int (3 : Int32)), .val (.int (1 : Int32))] [(.int (1 : Int32)), (.ref a1)]))
    refine Go.laload C X0 A1 (by decide) (getL (i := 1) hs (by decide)) d4_45 ?_
    show Go p e below s n0 _ _ _ (T0.setTop (mkF m 46 #[.val (.ref a1), .val (.int (5 : Int32)), .val (.int (2 : Int32)), .val (.int (3 : Int32)), .val (.int (1 : Int32))] [(.long (el sl 1))]))
    refine Go.st (fun _ => XS.aloadN X0.here C.hx rfl (hb C.hby d4_46) rfl rfl) ?_
    show Go p e below s n0 _ _ _ (T0.setTop (mkF m 47 #[.val (.ref a1), .val (.int (5 : Int32)), .val (.int (2 : Int32)), .val (.int (3 : Int32)), .val (.int (1 : Int32))] [(.ref a1), (.long (el sl 1))]))
    refine Go.st (fun _ => XS.iloadN X0.here C.hx rfl (hb C.hby d4_47) rfl) ?_
    show Go p e below s n0 _ _ _ (T0.setTop (mkF m 48 #[.val (.ref a1), .val (.int (5 : Int32)), .val (.int (2 : Int32)), .val (.int (3 : Int32)), .val (.int (1 : Int32))] [(.int (3 : Int32)), (.ref a1), (.long (el sl 1))]))
    refine Go.st (fun _ => XS.iconst X0.here C.hx rfl (hb C.hby d4_48)) ?_
    show Go p e below s n0 _ _ _ (T0.setTop (mkF m 49 #[.val (.ref a1), .val (.int (5 : Int32)), .val (.int (2 : Int32)), .val (.int (3 : Int32)), .val (.int (1 : Int32))] [(.int (1 : Int32)), (.int (3 : Int32)), (.ref a1), (.long (el sl 1))]))
    refine Go.st (fun _ => XS.iadd X0.here C.hx rfl (hb C.hby d4_49) rfl) ?_
    show Go p e below s n0 _ _ _ (T0.setTop (mkF m 50 #[.val (.ref a1), .val (.int (5 : Int32)), .val (.int (2 : Int32)), .val (.int (3 : Int32)), .val (.int (1 : Int32))] [(.int (4 : Int32)), (.ref a1), (.long (el sl 1))]))
    refine Go.laload C X0 A1 (by decide) (getL (i := 4) hs (by decide)) d4_50 ?_
    show Go p e below s n0 _ _ _ (T0.setTop (mkF m 51 #[.val (.ref a1), .val (.int (5 : Int32)), .val (.int (2 : Int32)), .val (.int (3 : Int32)), .val (.int (1 : Int32))] [(.long (el sl 4)), (.long (el sl 1))]))
    refine Go.st (fun _ => XS.lcmp X0.here C.hx rfl (hb C.hby d4_51) rfl) ?_
    show Go p e below s n0 _ _ _ (T0.setTop (mkF m 52 #[.val (.ref a1), .val (.int (5 : Int32)), .val (.int (2 : Int32)), .val (.int (3 : Int32)), .val (.int (1 : Int32))] [(.int (lcmpW (el sl 1) (el sl 4)))]))
    refine Go.lif_ne C X0 (pc' := 59) d4_52 (by decide) (by decide) (fun hc52_223 => ?_) (fun hc52_223 => ?_)
    · show Go p e below s n0 _ _ _ (T0.setTop (mkF m 59 #[.val (.ref a1), .val (.int (5 : Int32)), .val (.int (2 : Int32)), .val (.int (3 : Int32)), .val (.int (1 : Int32))] []))
      refine Go.st (fun _ => XS.iconst X0.here C.hx rfl (hb C.hby d4_59)) ?_
      show Go p e below s n0 _ _ _ (T0.setTop (mkF m 60 #[.val (.ref a1), .val (.int (5 : Int32)), .val (.int (2 : Int32)), .val (.int (3 : Int32)), .val (.int (1 : Int32))] [(.int (0 : Int32))]))
      refine Go.st (fun _ => XS.istore X0.here C.hx rfl (hb C.hby d4_60) rfl (l' := #[.val (.ref a1), .val (.int (5 : Int32)), .val (.int (2 : Int32)), .val (.int (3 : Int32)), .val (.int (0 : Int32))]) rfl) ?_
      show Go p e below s n0 _ _ _ (T0.setTop (mkF m 62 #[.val (.ref a1), .val (.int (5 : Int32)), .val (.int (2 : Int32)), .val (.int (3 : Int32)), .val (.int (0 : Int32))] []))
      refine Go.st (fun _ => XS.iloadN X0.here C.hx rfl (hb C.hby d4_62) rfl) ?_
      show Go p e below s n0 _ _ _ (T0.setTop (mkF m 63 #[.val (.ref a1), .val (.int (5 : Int32)), .val (.int (2 : Int32)), .val (.int (3 : Int32)), .val (.int (0 : Int32))] [(.int (2 : Int32))]))
      refine Go.st (fun _ => XS.iconst X0.here C.hx rfl (hb C.hby d4_63)) ?_
      show Go p e below s n0 _ _ _ (T0.setTop (mkF m 64 #[.val (.ref a1), .val (.int (5 : Int32)), .val (.int (2 : Int32)), .val (.int (3 : Int32)), .val (.int (0 : Int32))] [(.int (2 : Int32)), (.int (2 : Int32))]))
      refine Go.icmp_le C X0 (pc' := 91) d4_64 (by decide) (by decide) (fun _ => ?_) (fun hc => absurd hc (by decide))
      show Go p e below s n0 _ _ _ (T0.setTop (mkF m 91 #[.val (.ref a1), .val (.int (5 : Int32)), .val (.int (2 : Int32)), .val (.int (3 : Int32)), .val (.int (0 : Int32))] []))
      refine Go.st (fun _ => XS.iloadN X0.here C.hx rfl (hb C.hby d4_91) rfl) ?_
      show Go p e below s n0 _ _ _ (T0.setTop (mkF m 92 #[.val (.ref a1), .val (.int (5 : Int32)), .val (.int (2 : Int32)), .val (.int (3 : Int32)), .val (.int (0 : Int32))] [(.int (2 : Int32))]))
      refine Go.st (fun _ => XS.iconst X0.here C.hx rfl (hb C.hby d4_92)) ?_
      show Go p e below s n0 _ _ _ (T0.setTop (mkF m 93 #[.val (.ref a1), .val (.int (5 : Int32)), .val (.int (2 : Int32)), .val (.int (3 : Int32)), .val (.int (0 : Int32))] [(.int (3 : Int32)), (.int (2 : Int32))]))
      refine Go.icmp_le C X0 (pc' := 120) d4_93 (by decide) (by decide) (fun _ => ?_) (fun hc => absurd hc (by decide))
      show Go p e below s n0 _ _ _ (T0.setTop (mkF m 120 #[.val (.ref a1), .val (.int (5 : Int32)), .val (.int (2 : Int32)), .val (.int (3 : Int32)), .val (.int (0 : Int32))] []))
      refine Go.st (fun _ => XS.iloadN X0.here C.hx rfl (hb C.hby d4_120) rfl) ?_
      show Go p e below s n0 _ _ _ (T0.setTop (mkF m 121 #[.val (.ref a1), .val (.int (5 : Int32)), .val (.int (2 : Int32)), .val (.int (3 : Int32)), .val (.int (0 : Int32))] [(.int (2 : Int32))]))
      refine Go.st (fun _ => XS.iconst X0.here C.hx rfl (hb C.hby d4_121)) ?_
      show Go p e below s n0 _ _ _ (T0.setTop (mkF m 122 #[.val (.ref a1), .val (.int (5 : Int32)), .val (.int (2 : Int32)), .val (.int (3 : Int32)), .val (.int (0 : Int32))] [(.int (4 : Int32)), (.int (2 : Int32))]))
      refine Go.icmp_le C X0 (pc' := 149) d4_122 (by decide) (by decide) (fun _ => ?_) (fun hc => absurd hc (by decide))
      show Go p e below s n0 _ _ _ (T0.setTop (mkF m 149 #[.val (.ref a1), .val (.int (5 : Int32)), .val (.int (2 : Int32)), .val (.int (3 : Int32)), .val (.int (0 : Int32))] []))
      refine Go.st (fun _ => XS.iload X0.here C.hx rfl (hb C.hby d4_149) rfl) ?_
      show Go p e below s n0 _ _ _ (T0.setTop (mkF m 151 #[.val (.ref a1), .val (.int (5 : Int32)), .val (.int (2 : Int32)), .val (.int (3 : Int32)), .val (.int (0 : Int32))] [(.int (0 : Int32))]))
      exact Go.retZ C X0 (by decide) d4_151 ⟨by simp [b2i, sameE, Esl, List.range_succ, hc23_215, hc52_223], rfl⟩ (by decide) (by decide)
    · show Go p e below s n0 _ _ _ (T0.setTop (mkF m 55 #[.val (.ref a1), .val (.int (5 : Int32)), .val (.int (2 : Int32)), .val (.int (3 : Int32)), .val (.int (1 : Int32))] []))
      refine Go.st (fun _ => XS.iconst X0.here C.hx rfl (hb C.hby d4_55)) ?_
      show Go p e below s n0 _ _ _ (T0.setTop (mkF m 56 #[.val (.ref a1), .val (.int (5 : Int32)), .val (.int (2 : Int32)), .val (.int (3 : Int32)), .val (.int (1 : Int32))] [(.int (1 : Int32))]))
      refine Go.st (fun _ => XS.goto X0.here C.hx rfl (pc0 := 56) (pc' := 60) rfl (hb C.hby d4_56) (by decide) (by decide)) ?_
      show Go p e below s n0 _ _ _ (T0.setTop (mkF m 60 #[.val (.ref a1), .val (.int (5 : Int32)), .val (.int (2 : Int32)), .val (.int (3 : Int32)), .val (.int (1 : Int32))] [(.int (1 : Int32))]))
      refine Go.st (fun _ => XS.istore X0.here C.hx rfl (hb C.hby d4_60) rfl (l' := #[.val (.ref a1), .val (.int (5 : Int32)), .val (.int (2 : Int32)), .val (.int (3 : Int32)), .val (.int (1 : Int32))]) rfl) ?_
      show Go p e below s n0 _ _ _ (T0.setTop (mkF m 62 #[.val (.ref a1), .val (.int (5 : Int32)), .val (.int (2 : Int32)), .val (.int (3 : Int32)), .val (.int (1 : Int32))] []))
      refine Go.st (fun _ => XS.iloadN X0.here C.hx rfl (hb C.hby d4_62) rfl) ?_
      show Go p e below s n0 _ _ _ (T0.setTop (mkF m 63 #[.val (.ref a1), .val (.int (5 : Int32)), .val (.int (2 : Int32)), .val (.int (3 : Int32)), .val (.int (1 : Int32))] [(.int (2 : Int32))]))
      refine Go.st (fun _ => XS.iconst X0.here C.hx rfl (hb C.hby d4_63)) ?_
      show Go p e below s n0 _ _ _ (T0.setTop (mkF m 64 #[.val (.ref a1), .val (.int (5 : Int32)), .val (.int (2 : Int32)), .val (.int (3 : Int32)), .val (.int (1 : Int32))] [(.int (2 : Int32)), (.int (2 : Int32))]))
      refine Go.icmp_le C X0 (pc' := 91) d4_64 (by decide) (by decide) (fun _ => ?_) (fun hc => absurd hc (by decide))
      show Go p e below s n0 _ _ _ (T0.setTop (mkF m 91 #[.val (.ref a1), .val (.int (5 : Int32)), .val (.int (2 : Int32)), .val (.int (3 : Int32)), .val (.int (1 : Int32))] []))
      refine Go.st (fun _ => XS.iloadN X0.here C.hx rfl (hb C.hby d4_91) rfl) ?_
      show Go p e below s n0 _ _ _ (T0.setTop (mkF m 92 #[.val (.ref a1), .val (.int (5 : Int32)), .val (.int (2 : Int32)), .val (.int (3 : Int32)), .val (.int (1 : Int32))] [(.int (2 : Int32))]))
      refine Go.st (fun _ => XS.iconst X0.here C.hx rfl (hb C.hby d4_92)) ?_
      show Go p e below s n0 _ _ _ (T0.setTop (mkF m 93 #[.val (.ref a1), .val (.int (5 : Int32)), .val (.int (2 : Int32)), .val (.int (3 : Int32)), .val (.int (1 : Int32))] [(.int (3 : Int32)), (.int (2 : Int32))]))
      refine Go.icmp_le C X0 (pc' := 120) d4_93 (by decide) (by decide) (fun _ => ?_) (fun hc => absurd hc (by decide))
      show Go p e below s n0 _ _ _ (T0.setTop (mkF m 120 #[.val (.ref a1), .val (.int (5 : Int32)), .val (.int (2 : Int32)), .val (.int (3 : Int32)), .val (.int (1 : Int32))] []))
      refine Go.st (fun _ => XS.iloadN X0.here C.hx rfl (hb C.hby d4_120) rfl) ?_
      show Go p e below s n0 _ _ _ (T0.setTop (mkF m 121 #[.val (.ref a1), .val (.int (5 : Int32)), .val (.int (2 : Int32)), .val (.int (3 : Int32)), .val (.int (1 : Int32))] [(.int (2 : Int32))]))
      refine Go.st (fun _ => XS.iconst X0.here C.hx rfl (hb C.hby d4_121)) ?_
      show Go p e below s n0 _ _ _ (T0.setTop (mkF m 122 #[.val (.ref a1), .val (.int (5 : Int32)), .val (.int (2 : Int32)), .val (.int (3 : Int32)), .val (.int (1 : Int32))] [(.int (4 : Int32)), (.int (2 : Int32))]))
      refine Go.icmp_le C X0 (pc' := 149) d4_122 (by decide) (by decide) (fun _ => ?_) (fun hc => absurd hc (by decide))
      show Go p e below s n0 _ _ _ (T0.setTop (mkF m 149 #[.val (.ref a1), .val (.int (5 : Int32)), .val (.int (2 : Int32)), .val (.int (3 : Int32)), .val (.int (1 : Int32))] []))
      refine Go.st (fun _ => XS.iload X0.here C.hx rfl (hb C.hby d4_149) rfl) ?_
      show Go p e below s n0 _ _ _ (T0.setTop (mkF m 151 #[.val (.ref a1), .val (.int (5 : Int32)), .val (.int (2 : Int32)), .val (.int (3 : Int32)), .val (.int (1 : Int32))] [(.int (1 : Int32))]))
      exact Go.retZ C X0 (by decide) d4_151 ⟨by simp [b2i, sameE, Esl, List.range_succ, hc23_215, hc52_223], rfl⟩ (by decide) (by decide)
set_option maxRecDepth 65536 in
set_option maxHeartbeats 40000000 in
theorem con_same_5_3 (l : Launch) (Z : State) (a0 : Array Value) (hw : ∀ d ∈ tables_1, d.before a0 Z = true) (n0 : Nat) (h0 : Heap) (Z0 : n0 ≤ h0.size) (a1 : Addr) (sl : List Int64) (hs : sl.length = 6) (A1 : AR Z h0 a1 .long (sl.map Value.long)) :
    Con l Z (⟨"com/example/orderly_ring/orderlyring/model/SequencesExtendBordersPinLaw", "same", "([JII)Z"⟩ : MethodName) method_3_code 5 (some .boolean) [] ({ frames := 0, cells := 0, slots := 0, locals := 0 } : Room) n0 #[(.ref a1), (.int (5 : Int32)), (.int (3 : Int32))] h0 (fun v h => v = some (.int (b2i (sameE (Esl sl) 5 3))) ∧ h = h0) := by
  refine Con.mk pf_4 hw Z0 ?_
  intro p e s m below meth c T0 C X0
  have ef : entryFrame m #[(.ref a1), (.int (5 : Int32)), (.int (3 : Int32))] 5 = mkF m 0 #[.val (.ref a1), .val (.int (5 : Int32)), .val (.int (3 : Int32)), .unset, .unset] [] := by first | (simp [entryFrame, mkF, argsToLocals, Value.category]; done) | rfl
  rw [ef]
  show Go p e below s n0 _ _ _ (T0.setTop (mkF m 0 #[.val (.ref a1), .val (.int (5 : Int32)), .val (.int (3 : Int32)), .unset, .unset] []))
  refine Go.st (fun _ => XS.iloadN X0.here C.hx rfl (hb C.hby d4_0) rfl) ?_
  show Go p e below s n0 _ _ _ (T0.setTop (mkF m 1 #[.val (.ref a1), .val (.int (5 : Int32)), .val (.int (3 : Int32)), .unset, .unset] [(.int (5 : Int32))]))
  refine Go.st (fun _ => XS.iloadN X0.here C.hx rfl (hb C.hby d4_1) rfl) ?_
  show Go p e below s n0 _ _ _ (T0.setTop (mkF m 2 #[.val (.ref a1), .val (.int (5 : Int32)), .val (.int (3 : Int32)), .unset, .unset] [(.int (3 : Int32)), (.int (5 : Int32))]))
  refine Go.st (fun _ => XS.isub X0.here C.hx rfl (hb C.hby d4_2) rfl) ?_
  show Go p e below s n0 _ _ _ (T0.setTop (mkF m 3 #[.val (.ref a1), .val (.int (5 : Int32)), .val (.int (3 : Int32)), .unset, .unset] [(.int (2 : Int32))]))
  refine Go.st (fun _ => XS.istoreN X0.here C.hx rfl (hb C.hby d4_3) rfl (l' := #[.val (.ref a1), .val (.int (5 : Int32)), .val (.int (3 : Int32)), .val (.int (2 : Int32)), .unset]) rfl) ?_
  show Go p e below s n0 _ _ _ (T0.setTop (mkF m 4 #[.val (.ref a1), .val (.int (5 : Int32)), .val (.int (3 : Int32)), .val (.int (2 : Int32)), .unset] []))
  refine Go.st (fun _ => XS.iconst X0.here C.hx rfl (hb C.hby d4_4)) ?_
  show Go p e below s n0 _ _ _ (T0.setTop (mkF m 5 #[.val (.ref a1), .val (.int (5 : Int32)), .val (.int (3 : Int32)), .val (.int (2 : Int32)), .unset] [(.int (1 : Int32))]))
  refine Go.st (fun _ => XS.istore X0.here C.hx rfl (hb C.hby d4_5) rfl (l' := #[.val (.ref a1), .val (.int (5 : Int32)), .val (.int (3 : Int32)), .val (.int (2 : Int32)), .val (.int (1 : Int32))]) rfl) ?_
  show Go p e below s n0 _ _ _ (T0.setTop (mkF m 7 #[.val (.ref a1), .val (.int (5 : Int32)), .val (.int (3 : Int32)), .val (.int (2 : Int32)), .val (.int (1 : Int32))] []))
  refine Go.st (fun _ => XS.iloadN X0.here C.hx rfl (hb C.hby d4_7) rfl) ?_
  show Go p e below s n0 _ _ _ (T0.setTop (mkF m 8 #[.val (.ref a1), .val (.int (5 : Int32)), .val (.int (3 : Int32)), .val (.int (2 : Int32)), .val (.int (1 : Int32))] [(.int (3 : Int32))]))
  refine Go.if_le C X0 (pc' := 33) d4_8 (by decide) (by decide) (fun hc => absurd hc (by decide)) (fun _ => ?_)
  show Go p e below s n0 _ _ _ (T0.setTop (mkF m 11 #[.val (.ref a1), .val (.int (5 : Int32)), .val (.int (3 : Int32)), .val (.int (2 : Int32)), .val (.int (1 : Int32))] []))
  refine Go.st (fun _ => XS.iload X0.here C.hx rfl (hb C.hby d4_11) rfl) ?_
  show Go p e below s n0 _ _ _ (T0.setTop (mkF m 13 #[.val (.ref a1), .val (.int (5 : Int32)), .val (.int (3 : Int32)), .val (.int (2 : Int32)), .val (.int (1 : Int32))] [(.int (1 : Int32))]))
  refine Go.if_eq C X0 (pc' := 30) d4_13 (by decide) (by decide) (fun hc => absurd hc (by decide)) (fun _ => ?_)
  show Go p e below s n0 _ _ _ (T0.setTop (mkF m 16 #[.val (.ref a1), .val (.int (5 : Int32)), .val (.int (3 : Int32)), .val (.int (2 : Int32)), .val (.int (1 : Int32))] []))
  refine Go.st (fun _ => XS.aloadN X0.here C.hx rfl (hb C.hby d4_16) rfl rfl) ?_
  show Go p e below s n0 _ _ _ (T0.setTop (mkF m 17 #[.val (.ref a1), .val (.int (5 : Int32)), .val (.int (3 : Int32)), .val (.int (2 : Int32)), .val (.int (1 : Int32))] [(.ref a1)]))
  refine Go.st (fun _ => XS.iconst X0.here C.hx rfl (hb C.hby d4_17)) ?_
  show Go p e below s n0 _ _ _ (T0.setTop (mkF m 18 #[.val (.ref a1), .val (.int (5 : Int32)), .val (.int (3 : Int32)), .val (.int (2 : Int32)), .val (.int (1 : Int32))] [(.int (0 : Int32)), (.ref a1)]))
  refine Go.laload C X0 A1 (by decide) (getL (i := 0) hs (by decide)) d4_18 ?_
  show Go p e below s n0 _ _ _ (T0.setTop (mkF m 19 #[.val (.ref a1), .val (.int (5 : Int32)), .val (.int (3 : Int32)), .val (.int (2 : Int32)), .val (.int (1 : Int32))] [(.long (el sl 0))]))
  refine Go.st (fun _ => XS.aloadN X0.here C.hx rfl (hb C.hby d4_19) rfl rfl) ?_
  show Go p e below s n0 _ _ _ (T0.setTop (mkF m 20 #[.val (.ref a1), .val (.int (5 : Int32)), .val (.int (3 : Int32)), .val (.int (2 : Int32)), .val (.int (1 : Int32))] [(.ref a1), (.long (el sl 0))]))
  refine Go.st (fun _ => XS.iloadN X0.here C.hx rfl (hb C.hby d4_20) rfl) ?_
  show Go p e below s n0 _ _ _ (T0.setTop (mkF m 21 #[.val (.ref a1), .val (.int (5 : Int32)), .val (.int (3 : Int32)), .val (.int (2 : Int32)), .val (.int (1 : Int32))] [(.int (2 : Int32)), (.ref a1), (.long (el sl 0))]))
  refine Go.laload C X0 A1 (by decide) (getL (i := 2) hs (by decide)) d4_21 ?_
  show Go p e below s n0 _ _ _ (T0.setTop (mkF m 22 #[.val (.ref a1), .val (.int (5 : Int32)), .val (.int (3 : Int32)), .val (.int (2 : Int32)), .val (.int (1 : Int32))] [(.long (el sl 2)), (.long (el sl 0))]))
  refine Go.st (fun _ => XS.lcmp X0.here C.hx rfl (hb C.hby d4_22) rfl) ?_
  show Go p e below s n0 _ _ _ (T0.setTop (mkF m 23 #[.val (.ref a1), .val (.int (5 : Int32)), .val (.int (3 : Int32)), .val (.int (2 : Int32)), .val (.int (1 : Int32))] [(.int (lcmpW (el sl 0) (el sl 2)))]))
  refine Go.lif_ne C X0 (pc' := 30) d4_23 (by decide) (by decide) (fun hc23_232 => ?_) (fun hc23_232 => ?_)
  · show Go p e below s n0 _ _ _ (T0.setTop (mkF m 30 #[.val (.ref a1), .val (.int (5 : Int32)), .val (.int (3 : Int32)), .val (.int (2 : Int32)), .val (.int (1 : Int32))] []))
    refine Go.st (fun _ => XS.iconst X0.here C.hx rfl (hb C.hby d4_30)) ?_
    show Go p e below s n0 _ _ _ (T0.setTop (mkF m 31 #[.val (.ref a1), .val (.int (5 : Int32)), .val (.int (3 : Int32)), .val (.int (2 : Int32)), .val (.int (1 : Int32))] [(.int (0 : Int32))]))
    refine Go.st (fun _ => XS.istore X0.here C.hx rfl (hb C.hby d4_31) rfl (l' := #[.val (.ref a1), .val (.int (5 : Int32)), .val (.int (3 : Int32)), .val (.int (2 : Int32)), .val (.int (0 : Int32))]) rfl) ?_
    show Go p e below s n0 _ _ _ (T0.setTop (mkF m 33 #[.val (.ref a1), .val (.int (5 : Int32)), .val (.int (3 : Int32)), .val (.int (2 : Int32)), .val (.int (0 : Int32))] []))
    refine Go.st (fun _ => XS.iloadN X0.here C.hx rfl (hb C.hby d4_33) rfl) ?_
    show Go p e below s n0 _ _ _ (T0.setTop (mkF m 34 #[.val (.ref a1), .val (.int (5 : Int32)), .val (.int (3 : Int32)), .val (.int (2 : Int32)), .val (.int (0 : Int32))] [(.int (3 : Int32))]))
    refine Go.st (fun _ => XS.iconst X0.here C.hx rfl (hb C.hby d4_34)) ?_
    show Go p e below s n0 _ _ _ (T0.setTop (mkF m 35 #[.val (.ref a1), .val (.int (5 : Int32)), .val (.int (3 : Int32)), .val (.int (2 : Int32)), .val (.int (0 : Int32))] [(.int (1 : Int32)), (.int (3 : Int32))]))
    refine Go.icmp_le C X0 (pc' := 62) d4_35 (by decide) (by decide) (fun hc => absurd hc (by decide)) (fun _ => ?_)
    show Go p e below s n0 _ _ _ (T0.setTop (mkF m 38 #[.val (.ref a1), .val (.int (5 : Int32)), .val (.int (3 : Int32)), .val (.int (2 : Int32)), .val (.int (0 : Int32))] []))
    refine Go.st (fun _ => XS.iload X0.here C.hx rfl (hb C.hby d4_38) rfl) ?_
    show Go p e below s n0 _ _ _ (T0.setTop (mkF m 40 #[.val (.ref a1), .val (.int (5 : Int32)), .val (.int (3 : Int32)), .val (.int (2 : Int32)), .val (.int (0 : Int32))] [(.int (0 : Int32))]))
    refine Go.if_eq C X0 (pc' := 59) d4_40 (by decide) (by decide) (fun _ => ?_) (fun hc => absurd hc (by decide))
    show Go p e below s n0 _ _ _ (T0.setTop (mkF m 59 #[.val (.ref a1), .val (.int (5 : Int32)), .val (.int (3 : Int32)), .val (.int (2 : Int32)), .val (.int (0 : Int32))] []))
    refine Go.st (fun _ => XS.iconst X0.here C.hx rfl (hb C.hby d4_59)) ?_
    show Go p e below s n0 _ _ _ (T0.setTop (mkF m 60 #[.val (.ref a1), .val (.int (5 : Int32)), .val (.int (3 : Int32)), .val (.int (2 : Int32)), .val (.int (0 : Int32))] [(.int (0 : Int32))]))
    refine Go.st (fun _ => XS.istore X0.here C.hx rfl (hb C.hby d4_60) rfl (l' := #[.val (.ref a1), .val (.int (5 : Int32)), .val (.int (3 : Int32)), .val (.int (2 : Int32)), .val (.int (0 : Int32))]) rfl) ?_
    show Go p e below s n0 _ _ _ (T0.setTop (mkF m 62 #[.val (.ref a1), .val (.int (5 : Int32)), .val (.int (3 : Int32)), .val (.int (2 : Int32)), .val (.int (0 : Int32))] []))
    refine Go.st (fun _ => XS.iloadN X0.here C.hx rfl (hb C.hby d4_62) rfl) ?_
    show Go p e below s n0 _ _ _ (T0.setTop (mkF m 63 #[.val (.ref a1), .val (.int (5 : Int32)), .val (.int (3 : Int32)), .val (.int (2 : Int32)), .val (.int (0 : Int32))] [(.int (3 : Int32))]))
    refine Go.st (fun _ => XS.iconst X0.here C.hx rfl (hb C.hby d4_63)) ?_
    show Go p e below s n0 _ _ _ (T0.setTop (mkF m 64 #[.val (.ref a1), .val (.int (5 : Int32)), .val (.int (3 : Int32)), .val (.int (2 : Int32)), .val (.int (0 : Int32))] [(.int (2 : Int32)), (.int (3 : Int32))]))
    refine Go.icmp_le C X0 (pc' := 91) d4_64 (by decide) (by decide) (fun hc => absurd hc (by decide)) (fun _ => ?_)
    show Go p e below s n0 _ _ _ (T0.setTop (mkF m 67 #[.val (.ref a1), .val (.int (5 : Int32)), .val (.int (3 : Int32)), .val (.int (2 : Int32)), .val (.int (0 : Int32))] []))
    refine Go.st (fun _ => XS.iload X0.here C.hx rfl (hb C.hby d4_67) rfl) ?_
    show Go p e below s n0 _ _ _ (T0.setTop (mkF m 69 #[.val (.ref a1), .val (.int (5 : Int32)), .val (.int (3 : Int32)), .val (.int (2 : Int32)), .val (.int (0 : Int32))] [(.int (0 : Int32))]))
    refine Go.if_eq C X0 (pc' := 88) d4_69 (by decide) (by decide) (fun _ => ?_) (fun hc => absurd hc (by decide))
    show Go p e below s n0 _ _ _ (T0.setTop (mkF m 88 #[.val (.ref a1), .val (.int (5 : Int32)), .val (.int (3 : Int32)), .val (.int (2 : Int32)), .val (.int (0 : Int32))] []))
    refine Go.st (fun _ => XS.iconst X0.here C.hx rfl (hb C.hby d4_88)) ?_
    show Go p e below s n0 _ _ _ (T0.setTop (mkF m 89 #[.val (.ref a1), .val (.int (5 : Int32)), .val (.int (3 : Int32)), .val (.int (2 : Int32)), .val (.int (0 : Int32))] [(.int (0 : Int32))]))
    refine Go.st (fun _ => XS.istore X0.here C.hx rfl (hb C.hby d4_89) rfl (l' := #[.val (.ref a1), .val (.int (5 : Int32)), .val (.int (3 : Int32)), .val (.int (2 : Int32)), .val (.int (0 : Int32))]) rfl) ?_
    show Go p e below s n0 _ _ _ (T0.setTop (mkF m 91 #[.val (.ref a1), .val (.int (5 : Int32)), .val (.int (3 : Int32)), .val (.int (2 : Int32)), .val (.int (0 : Int32))] []))
    refine Go.st (fun _ => XS.iloadN X0.here C.hx rfl (hb C.hby d4_91) rfl) ?_
    show Go p e below s n0 _ _ _ (T0.setTop (mkF m 92 #[.val (.ref a1), .val (.int (5 : Int32)), .val (.int (3 : Int32)), .val (.int (2 : Int32)), .val (.int (0 : Int32))] [(.int (3 : Int32))]))
    refine Go.st (fun _ => XS.iconst X0.here C.hx rfl (hb C.hby d4_92)) ?_
    show Go p e below s n0 _ _ _ (T0.setTop (mkF m 93 #[.val (.ref a1), .val (.int (5 : Int32)), .val (.int (3 : Int32)), .val (.int (2 : Int32)), .val (.int (0 : Int32))] [(.int (3 : Int32)), (.int (3 : Int32))]))
    refine Go.icmp_le C X0 (pc' := 120) d4_93 (by decide) (by decide) (fun _ => ?_) (fun hc => absurd hc (by decide))
    show Go p e below s n0 _ _ _ (T0.setTop (mkF m 120 #[.val (.ref a1), .val (.int (5 : Int32)), .val (.int (3 : Int32)), .val (.int (2 : Int32)), .val (.int (0 : Int32))] []))
    refine Go.st (fun _ => XS.iloadN X0.here C.hx rfl (hb C.hby d4_120) rfl) ?_
    show Go p e below s n0 _ _ _ (T0.setTop (mkF m 121 #[.val (.ref a1), .val (.int (5 : Int32)), .val (.int (3 : Int32)), .val (.int (2 : Int32)), .val (.int (0 : Int32))] [(.int (3 : Int32))]))
    refine Go.st (fun _ => XS.iconst X0.here C.hx rfl (hb C.hby d4_121)) ?_
    show Go p e below s n0 _ _ _ (T0.setTop (mkF m 122 #[.val (.ref a1), .val (.int (5 : Int32)), .val (.int (3 : Int32)), .val (.int (2 : Int32)), .val (.int (0 : Int32))] [(.int (4 : Int32)), (.int (3 : Int32))]))
    refine Go.icmp_le C X0 (pc' := 149) d4_122 (by decide) (by decide) (fun _ => ?_) (fun hc => absurd hc (by decide))
    show Go p e below s n0 _ _ _ (T0.setTop (mkF m 149 #[.val (.ref a1), .val (.int (5 : Int32)), .val (.int (3 : Int32)), .val (.int (2 : Int32)), .val (.int (0 : Int32))] []))
    refine Go.st (fun _ => XS.iload X0.here C.hx rfl (hb C.hby d4_149) rfl) ?_
    show Go p e below s n0 _ _ _ (T0.setTop (mkF m 151 #[.val (.ref a1), .val (.int (5 : Int32)), .val (.int (3 : Int32)), .val (.int (2 : Int32)), .val (.int (0 : Int32))] [(.int (0 : Int32))]))
    exact Go.retZ C X0 (by decide) d4_151 ⟨by simp [b2i, sameE, Esl, List.range_succ, hc23_232], rfl⟩ (by decide) (by decide)
  · show Go p e below s n0 _ _ _ (T0.setTop (mkF m 26 #[.val (.ref a1), .val (.int (5 : Int32)), .val (.int (3 : Int32)), .val (.int (2 : Int32)), .val (.int (1 : Int32))] []))
    refine Go.st (fun _ => XS.iconst X0.here C.hx rfl (hb C.hby d4_26)) ?_
    show Go p e below s n0 _ _ _ (T0.setTop (mkF m 27 #[.val (.ref a1), .val (.int (5 : Int32)), .val (.int (3 : Int32)), .val (.int (2 : Int32)), .val (.int (1 : Int32))] [(.int (1 : Int32))]))
    refine Go.st (fun _ => XS.goto X0.here C.hx rfl (pc0 := 27) (pc' := 31) rfl (hb C.hby d4_27) (by decide) (by decide)) ?_
    show Go p e below s n0 _ _ _ (T0.setTop (mkF m 31 #[.val (.ref a1), .val (.int (5 : Int32)), .val (.int (3 : Int32)), .val (.int (2 : Int32)), .val (.int (1 : Int32))] [(.int (1 : Int32))]))
    refine Go.st (fun _ => XS.istore X0.here C.hx rfl (hb C.hby d4_31) rfl (l' := #[.val (.ref a1), .val (.int (5 : Int32)), .val (.int (3 : Int32)), .val (.int (2 : Int32)), .val (.int (1 : Int32))]) rfl) ?_
    show Go p e below s n0 _ _ _ (T0.setTop (mkF m 33 #[.val (.ref a1), .val (.int (5 : Int32)), .val (.int (3 : Int32)), .val (.int (2 : Int32)), .val (.int (1 : Int32))] []))
    refine Go.st (fun _ => XS.iloadN X0.here C.hx rfl (hb C.hby d4_33) rfl) ?_
    show Go p e below s n0 _ _ _ (T0.setTop (mkF m 34 #[.val (.ref a1), .val (.int (5 : Int32)), .val (.int (3 : Int32)), .val (.int (2 : Int32)), .val (.int (1 : Int32))] [(.int (3 : Int32))]))
    refine Go.st (fun _ => XS.iconst X0.here C.hx rfl (hb C.hby d4_34)) ?_
    show Go p e below s n0 _ _ _ (T0.setTop (mkF m 35 #[.val (.ref a1), .val (.int (5 : Int32)), .val (.int (3 : Int32)), .val (.int (2 : Int32)), .val (.int (1 : Int32))] [(.int (1 : Int32)), (.int (3 : Int32))]))
    refine Go.icmp_le C X0 (pc' := 62) d4_35 (by decide) (by decide) (fun hc => absurd hc (by decide)) (fun _ => ?_)
    show Go p e below s n0 _ _ _ (T0.setTop (mkF m 38 #[.val (.ref a1), .val (.int (5 : Int32)), .val (.int (3 : Int32)), .val (.int (2 : Int32)), .val (.int (1 : Int32))] []))
    refine Go.st (fun _ => XS.iload X0.here C.hx rfl (hb C.hby d4_38) rfl) ?_
    show Go p e below s n0 _ _ _ (T0.setTop (mkF m 40 #[.val (.ref a1), .val (.int (5 : Int32)), .val (.int (3 : Int32)), .val (.int (2 : Int32)), .val (.int (1 : Int32))] [(.int (1 : Int32))]))
    refine Go.if_eq C X0 (pc' := 59) d4_40 (by decide) (by decide) (fun hc => absurd hc (by decide)) (fun _ => ?_)
    show Go p e below s n0 _ _ _ (T0.setTop (mkF m 43 #[.val (.ref a1), .val (.int (5 : Int32)), .val (.int (3 : Int32)), .val (.int (2 : Int32)), .val (.int (1 : Int32))] []))
    refine Go.st (fun _ => XS.aloadN X0.here C.hx rfl (hb C.hby d4_43) rfl rfl) ?_
    show Go p e below s n0 _ _ _ (T0.setTop (mkF m 44 #[.val (.ref a1), .val (.int (5 : Int32)), .val (.int (3 : Int32)), .val (.int (2 : Int32)), .val (.int (1 : Int32))] [(.ref a1)]))
    refine Go.st (fun _ => XS.iconst X0.here C.hx rfl (hb C.hby d4_44)) ?_
    show Go p e below s n0 _ _ _ (T0.setTop (mkF m 45 #[.val (.ref a1), .val (.int (5 : Int32)), .val (.int (3 : Int32)), .val (.int (2 : Int32)), .val (.int (1 : Int32))] [(.int (1 : Int32)), (.ref a1)]))
    refine Go.laload C X0 A1 (by decide) (getL (i := 1) hs (by decide)) d4_45 ?_
    show Go p e below s n0 _ _ _ (T0.setTop (mkF m 46 #[.val (.ref a1), .val (.int (5 : Int32)), .val (.int (3 : Int32)), .val (.int (2 : Int32)), .val (.int (1 : Int32))] [(.long (el sl 1))]))
    refine Go.st (fun _ => XS.aloadN X0.here C.hx rfl (hb C.hby d4_46) rfl rfl) ?_
    show Go p e below s n0 _ _ _ (T0.setTop (mkF m 47 #[.val (.ref a1), .val (.int (5 : Int32)), .val (.int (3 : Int32)), .val (.int (2 : Int32)), .val (.int (1 : Int32))] [(.ref a1), (.long (el sl 1))]))
    refine Go.st (fun _ => XS.iloadN X0.here C.hx rfl (hb C.hby d4_47) rfl) ?_
    show Go p e below s n0 _ _ _ (T0.setTop (mkF m 48 #[.val (.ref a1), .val (.int (5 : Int32)), .val (.int (3 : Int32)), .val (.int (2 : Int32)), .val (.int (1 : Int32))] [(.int (2 : Int32)), (.ref a1), (.long (el sl 1))]))
    refine Go.st (fun _ => XS.iconst X0.here C.hx rfl (hb C.hby d4_48)) ?_
    show Go p e below s n0 _ _ _ (T0.setTop (mkF m 49 #[.val (.ref a1), .val (.int (5 : Int32)), .val (.int (3 : Int32)), .val (.int (2 : Int32)), .val (.int (1 : Int32))] [(.int (1 : Int32)), (.int (2 : Int32)), (.ref a1), (.long (el sl 1))]))
    refine Go.st (fun _ => XS.iadd X0.here C.hx rfl (hb C.hby d4_49) rfl) ?_
    show Go p e below s n0 _ _ _ (T0.setTop (mkF m 50 #[.val (.ref a1), .val (.int (5 : Int32)), .val (.int (3 : Int32)), .val (.int (2 : Int32)), .val (.int (1 : Int32))] [(.int (3 : Int32)), (.ref a1), (.long (el sl 1))]))
    refine Go.laload C X0 A1 (by decide) (getL (i := 3) hs (by decide)) d4_50 ?_
    show Go p e below s n0 _ _ _ (T0.setTop (mkF m 51 #[.val (.ref a1), .val (.int (5 : Int32)), .val (.int (3 : Int32)), .val (.int (2 : Int32)), .val (.int (1 : Int32))] [(.long (el sl 3)), (.long (el sl 1))]))
    refine Go.st (fun _ => XS.lcmp X0.here C.hx rfl (hb C.hby d4_51) rfl) ?_
    show Go p e below s n0 _ _ _ (T0.setTop (mkF m 52 #[.val (.ref a1), .val (.int (5 : Int32)), .val (.int (3 : Int32)), .val (.int (2 : Int32)), .val (.int (1 : Int32))] [(.int (lcmpW (el sl 1) (el sl 3)))]))
    refine Go.lif_ne C X0 (pc' := 59) d4_52 (by decide) (by decide) (fun hc52_241 => ?_) (fun hc52_241 => ?_)
    · show Go p e below s n0 _ _ _ (T0.setTop (mkF m 59 #[.val (.ref a1), .val (.int (5 : Int32)), .val (.int (3 : Int32)), .val (.int (2 : Int32)), .val (.int (1 : Int32))] []))
      refine Go.st (fun _ => XS.iconst X0.here C.hx rfl (hb C.hby d4_59)) ?_
      show Go p e below s n0 _ _ _ (T0.setTop (mkF m 60 #[.val (.ref a1), .val (.int (5 : Int32)), .val (.int (3 : Int32)), .val (.int (2 : Int32)), .val (.int (1 : Int32))] [(.int (0 : Int32))]))
      refine Go.st (fun _ => XS.istore X0.here C.hx rfl (hb C.hby d4_60) rfl (l' := #[.val (.ref a1), .val (.int (5 : Int32)), .val (.int (3 : Int32)), .val (.int (2 : Int32)), .val (.int (0 : Int32))]) rfl) ?_
      show Go p e below s n0 _ _ _ (T0.setTop (mkF m 62 #[.val (.ref a1), .val (.int (5 : Int32)), .val (.int (3 : Int32)), .val (.int (2 : Int32)), .val (.int (0 : Int32))] []))
      refine Go.st (fun _ => XS.iloadN X0.here C.hx rfl (hb C.hby d4_62) rfl) ?_
      show Go p e below s n0 _ _ _ (T0.setTop (mkF m 63 #[.val (.ref a1), .val (.int (5 : Int32)), .val (.int (3 : Int32)), .val (.int (2 : Int32)), .val (.int (0 : Int32))] [(.int (3 : Int32))]))
      refine Go.st (fun _ => XS.iconst X0.here C.hx rfl (hb C.hby d4_63)) ?_
      show Go p e below s n0 _ _ _ (T0.setTop (mkF m 64 #[.val (.ref a1), .val (.int (5 : Int32)), .val (.int (3 : Int32)), .val (.int (2 : Int32)), .val (.int (0 : Int32))] [(.int (2 : Int32)), (.int (3 : Int32))]))
      refine Go.icmp_le C X0 (pc' := 91) d4_64 (by decide) (by decide) (fun hc => absurd hc (by decide)) (fun _ => ?_)
      show Go p e below s n0 _ _ _ (T0.setTop (mkF m 67 #[.val (.ref a1), .val (.int (5 : Int32)), .val (.int (3 : Int32)), .val (.int (2 : Int32)), .val (.int (0 : Int32))] []))
      refine Go.st (fun _ => XS.iload X0.here C.hx rfl (hb C.hby d4_67) rfl) ?_
      show Go p e below s n0 _ _ _ (T0.setTop (mkF m 69 #[.val (.ref a1), .val (.int (5 : Int32)), .val (.int (3 : Int32)), .val (.int (2 : Int32)), .val (.int (0 : Int32))] [(.int (0 : Int32))]))
      refine Go.if_eq C X0 (pc' := 88) d4_69 (by decide) (by decide) (fun _ => ?_) (fun hc => absurd hc (by decide))
      show Go p e below s n0 _ _ _ (T0.setTop (mkF m 88 #[.val (.ref a1), .val (.int (5 : Int32)), .val (.int (3 : Int32)), .val (.int (2 : Int32)), .val (.int (0 : Int32))] []))
      refine Go.st (fun _ => XS.iconst X0.here C.hx rfl (hb C.hby d4_88)) ?_
      show Go p e below s n0 _ _ _ (T0.setTop (mkF m 89 #[.val (.ref a1), .val (.int (5 : Int32)), .val (.int (3 : Int32)), .val (.int (2 : Int32)), .val (.int (0 : Int32))] [(.int (0 : Int32))]))
      refine Go.st (fun _ => XS.istore X0.here C.hx rfl (hb C.hby d4_89) rfl (l' := #[.val (.ref a1), .val (.int (5 : Int32)), .val (.int (3 : Int32)), .val (.int (2 : Int32)), .val (.int (0 : Int32))]) rfl) ?_
      show Go p e below s n0 _ _ _ (T0.setTop (mkF m 91 #[.val (.ref a1), .val (.int (5 : Int32)), .val (.int (3 : Int32)), .val (.int (2 : Int32)), .val (.int (0 : Int32))] []))
      refine Go.st (fun _ => XS.iloadN X0.here C.hx rfl (hb C.hby d4_91) rfl) ?_
      show Go p e below s n0 _ _ _ (T0.setTop (mkF m 92 #[.val (.ref a1), .val (.int (5 : Int32)), .val (.int (3 : Int32)), .val (.int (2 : Int32)), .val (.int (0 : Int32))] [(.int (3 : Int32))]))
      refine Go.st (fun _ => XS.iconst X0.here C.hx rfl (hb C.hby d4_92)) ?_
      show Go p e below s n0 _ _ _ (T0.setTop (mkF m 93 #[.val (.ref a1), .val (.int (5 : Int32)), .val (.int (3 : Int32)), .val (.int (2 : Int32)), .val (.int (0 : Int32))] [(.int (3 : Int32)), (.int (3 : Int32))]))
      refine Go.icmp_le C X0 (pc' := 120) d4_93 (by decide) (by decide) (fun _ => ?_) (fun hc => absurd hc (by decide))
      show Go p e below s n0 _ _ _ (T0.setTop (mkF m 120 #[.val (.ref a1), .val (.int (5 : Int32)), .val (.int (3 : Int32)), .val (.int (2 : Int32)), .val (.int (0 : Int32))] []))
      refine Go.st (fun _ => XS.iloadN X0.here C.hx rfl (hb C.hby d4_120) rfl) ?_
      show Go p e below s n0 _ _ _ (T0.setTop (mkF m 121 #[.val (.ref a1), .val (.int (5 : Int32)), .val (.int (3 : Int32)), .val (.int (2 : Int32)), .val (.int (0 : Int32))] [(.int (3 : Int32))]))
      refine Go.st (fun _ => XS.iconst X0.here C.hx rfl (hb C.hby d4_121)) ?_
      show Go p e below s n0 _ _ _ (T0.setTop (mkF m 122 #[.val (.ref a1), .val (.int (5 : Int32)), .val (.int (3 : Int32)), .val (.int (2 : Int32)), .val (.int (0 : Int32))] [(.int (4 : Int32)), (.int (3 : Int32))]))
      refine Go.icmp_le C X0 (pc' := 149) d4_122 (by decide) (by decide) (fun _ => ?_) (fun hc => absurd hc (by decide))
      show Go p e below s n0 _ _ _ (T0.setTop (mkF m 149 #[.val (.ref a1), .val (.int (5 : Int32)), .val (.int (3 : Int32)), .val (.int (2 : Int32)), .val (.int (0 : Int32))] []))
      refine Go.st (fun _ => XS.iload X0.here C.hx rfl (hb C.hby d4_149) rfl) ?_
      show Go p e below s n0 _ _ _ (T0.setTop (mkF m 151 #[.val (.ref a1), .val (.int (5 : Int32)), .val (.int (3 : Int32)), .val (.int (2 : Int32)), .val (.int (0 : Int32))] [(.int (0 : Int32))]))
      exact Go.retZ C X0 (by decide) d4_151 ⟨by simp [b2i, sameE, Esl, List.range_succ, hc23_232, hc52_241], rfl⟩ (by decide) (by decide)
    · show Go p e below s n0 _ _ _ (T0.setTop (mkF m 55 #[.val (.ref a1), .val (.int (5 : Int32)), .val (.int (3 : Int32)), .val (.int (2 : Int32)), .val (.int (1 : Int32))] []))
      refine Go.st (fun _ => XS.iconst X0.here C.hx rfl (hb C.hby d4_55)) ?_
      show Go p e below s n0 _ _ _ (T0.setTop (mkF m 56 #[.val (.ref a1), .val (.int (5 : Int32)), .val (.int (3 : Int32)), .val (.int (2 : Int32)), .val (.int (1 : Int32))] [(.int (1 : Int32))]))
      refine Go.st (fun _ => XS.goto X0.here C.hx rfl (pc0 := 56) (pc' := 60) rfl (hb C.hby d4_56) (by decide) (by decide)) ?_
      show Go p e below s n0 _ _ _ (T0.setTop (mkF m 60 #[.val (.ref a1), .val (.int (5 : Int32)), .val (.int (3 : Int32)), .val (.int (2 : Int32)), .val (.int (1 : Int32))] [(.int (1 : Int32))]))
      refine Go.st (fun _ => XS.istore X0.here C.hx rfl (hb C.hby d4_60) rfl (l' := #[.val (.ref a1), .val (.int (5 : Int32)), .val (.int (3 : Int32)), .val (.int (2 : Int32)), .val (.int (1 : Int32))]) rfl) ?_
      show Go p e below s n0 _ _ _ (T0.setTop (mkF m 62 #[.val (.ref a1), .val (.int (5 : Int32)), .val (.int (3 : Int32)), .val (.int (2 : Int32)), .val (.int (1 : Int32))] []))
      refine Go.st (fun _ => XS.iloadN X0.here C.hx rfl (hb C.hby d4_62) rfl) ?_
      show Go p e below s n0 _ _ _ (T0.setTop (mkF m 63 #[.val (.ref a1), .val (.int (5 : Int32)), .val (.int (3 : Int32)), .val (.int (2 : Int32)), .val (.int (1 : Int32))] [(.int (3 : Int32))]))
      refine Go.st (fun _ => XS.iconst X0.here C.hx rfl (hb C.hby d4_63)) ?_
      show Go p e below s n0 _ _ _ (T0.setTop (mkF m 64 #[.val (.ref a1), .val (.int (5 : Int32)), .val (.int (3 : Int32)), .val (.int (2 : Int32)), .val (.int (1 : Int32))] [(.int (2 : Int32)), (.int (3 : Int32))]))
      refine Go.icmp_le C X0 (pc' := 91) d4_64 (by decide) (by decide) (fun hc => absurd hc (by decide)) (fun _ => ?_)
      show Go p e below s n0 _ _ _ (T0.setTop (mkF m 67 #[.val (.ref a1), .val (.int (5 : Int32)), .val (.int (3 : Int32)), .val (.int (2 : Int32)), .val (.int (1 : Int32))] []))
      refine Go.st (fun _ => XS.iload X0.here C.hx rfl (hb C.hby d4_67) rfl) ?_
      show Go p e below s n0 _ _ _ (T0.setTop (mkF m 69 #[.val (.ref a1), .val (.int (5 : Int32)), .val (.int (3 : Int32)), .val (.int (2 : Int32)), .val (.int (1 : Int32))] [(.int (1 : Int32))]))
      refine Go.if_eq C X0 (pc' := 88) d4_69 (by decide) (by decide) (fun hc => absurd hc (by decide)) (fun _ => ?_)
      show Go p e below s n0 _ _ _ (T0.setTop (mkF m 72 #[.val (.ref a1), .val (.int (5 : Int32)), .val (.int (3 : Int32)), .val (.int (2 : Int32)), .val (.int (1 : Int32))] []))
      refine Go.st (fun _ => XS.aloadN X0.here C.hx rfl (hb C.hby d4_72) rfl rfl) ?_
      show Go p e below s n0 _ _ _ (T0.setTop (mkF m 73 #[.val (.ref a1), .val (.int (5 : Int32)), .val (.int (3 : Int32)), .val (.int (2 : Int32)), .val (.int (1 : Int32))] [(.ref a1)]))
      refine Go.st (fun _ => XS.iconst X0.here C.hx rfl (hb C.hby d4_73)) ?_
      show Go p e below s n0 _ _ _ (T0.setTop (mkF m 74 #[.val (.ref a1), .val (.int (5 : Int32)), .val (.int (3 : Int32)), .val (.int (2 : Int32)), .val (.int (1 : Int32))] [(.int (2 : Int32)), (.ref a1)]))
      refine Go.laload C X0 A1 (by decide) (getL (i := 2) hs (by decide)) d4_74 ?_
      show Go p e below s n0 _ _ _ (T0.setTop (mkF m 75 #[.val (.ref a1), .val (.int (5 : Int32)), .val (.int (3 : Int32)), .val (.int (2 : Int32)), .val (.int (1 : Int32))] [(.long (el sl 2))]))
      refine Go.st (fun _ => XS.aloadN X0.here C.hx rfl (hb C.hby d4_75) rfl rfl) ?_
      show Go p e below s n0 _ _ _ (T0.setTop (mkF m 76 #[.val (.ref a1), .val (.int (5 : Int32)), .val (.int (3 : Int32)), .val (.int (2 : Int32)), .val (.int (1 : Int32))] [(.ref a1), (.long (el sl 2))]))
      refine Go.st (fun _ => XS.iloadN X0.here C.hx rfl (hb C.hby d4_76) rfl) ?_
      show Go p e below s n0 _ _ _ (T0.setTop (mkF m 77 #[.val (.ref a1), .val (.int (5 : Int32)), .val (.int (3 : Int32)), .val (.int (2 : Int32)), .val (.int (1 : Int32))] [(.int (2 : Int32)), (.ref a1), (.long (el sl 2))]))
      refine Go.st (fun _ => XS.iconst X0.here C.hx rfl (hb C.hby d4_77)) ?_
      show Go p e below s n0 _ _ _ (T0.setTop (mkF m 78 #[.val (.ref a1), .val (.int (5 : Int32)), .val (.int (3 : Int32)), .val (.int (2 : Int32)), .val (.int (1 : Int32))] [(.int (2 : Int32)), (.int (2 : Int32)), (.ref a1), (.long (el sl 2))]))
      refine Go.st (fun _ => XS.iadd X0.here C.hx rfl (hb C.hby d4_78) rfl) ?_
      show Go p e below s n0 _ _ _ (T0.setTop (mkF m 79 #[.val (.ref a1), .val (.int (5 : Int32)), .val (.int (3 : Int32)), .val (.int (2 : Int32)), .val (.int (1 : Int32))] [(.int (4 : Int32)), (.ref a1), (.long (el sl 2))]))
      refine Go.laload C X0 A1 (by decide) (getL (i := 4) hs (by decide)) d4_79 ?_
      show Go p e below s n0 _ _ _ (T0.setTop (mkF m 80 #[.val (.ref a1), .val (.int (5 : Int32)), .val (.int (3 : Int32)), .val (.int (2 : Int32)), .val (.int (1 : Int32))] [(.long (el sl 4)), (.long (el sl 2))]))
      refine Go.st (fun _ => XS.lcmp X0.here C.hx rfl (hb C.hby d4_80) rfl) ?_
      show Go p e below s n0 _ _ _ (T0.setTop (mkF m 81 #[.val (.ref a1), .val (.int (5 : Int32)), .val (.int (3 : Int32)), .val (.int (2 : Int32)), .val (.int (1 : Int32))] [(.int (lcmpW (el sl 2) (el sl 4)))]))
      refine Go.lif_ne C X0 (pc' := 88) d4_81 (by decide) (by decide) (fun hc81_248 => ?_) (fun hc81_248 => ?_)
      · show Go p e below s n0 _ _ _ (T0.setTop (mkF m 88 #[.val (.ref a1), .val (.int (5 : Int32)), .val (.int (3 : Int32)), .val (.int (2 : Int32)), .val (.int (1 : Int32))] []))
        refine Go.st (fun _ => XS.iconst X0.here C.hx rfl (hb C.hby d4_88)) ?_
        show Go p e below s n0 _ _ _ (T0.setTop (mkF m 89 #[.val (.ref a1), .val (.int (5 : Int32)), .val (.int (3 : Int32)), .val (.int (2 : Int32)), .val (.int (1 : Int32))] [(.int (0 : Int32))]))
        refine Go.st (fun _ => XS.istore X0.here C.hx rfl (hb C.hby d4_89) rfl (l' := #[.val (.ref a1), .val (.int (5 : Int32)), .val (.int (3 : Int32)), .val (.int (2 : Int32)), .val (.int (0 : Int32))]) rfl) ?_
        show Go p e below s n0 _ _ _ (T0.setTop (mkF m 91 #[.val (.ref a1), .val (.int (5 : Int32)), .val (.int (3 : Int32)), .val (.int (2 : Int32)), .val (.int (0 : Int32))] []))
        refine Go.st (fun _ => XS.iloadN X0.here C.hx rfl (hb C.hby d4_91) rfl) ?_
        show Go p e below s n0 _ _ _ (T0.setTop (mkF m 92 #[.val (.ref a1), .val (.int (5 : Int32)), .val (.int (3 : Int32)), .val (.int (2 : Int32)), .val (.int (0 : Int32))] [(.int (3 : Int32))]))
        refine Go.st (fun _ => XS.iconst X0.here C.hx rfl (hb C.hby d4_92)) ?_
        show Go p e below s n0 _ _ _ (T0.setTop (mkF m 93 #[.val (.ref a1), .val (.int (5 : Int32)), .val (.int (3 : Int32)), .val (.int (2 : Int32)), .val (.int (0 : Int32))] [(.int (3 : Int32)), (.int (3 : Int32))]))
        refine Go.icmp_le C X0 (pc' := 120) d4_93 (by decide) (by decide) (fun _ => ?_) (fun hc => absurd hc (by decide))
        show Go p e below s n0 _ _ _ (T0.setTop (mkF m 120 #[.val (.ref a1), .val (.int (5 : Int32)), .val (.int (3 : Int32)), .val (.int (2 : Int32)), .val (.int (0 : Int32))] []))
        refine Go.st (fun _ => XS.iloadN X0.here C.hx rfl (hb C.hby d4_120) rfl) ?_
        show Go p e below s n0 _ _ _ (T0.setTop (mkF m 121 #[.val (.ref a1), .val (.int (5 : Int32)), .val (.int (3 : Int32)), .val (.int (2 : Int32)), .val (.int (0 : Int32))] [(.int (3 : Int32))]))
        refine Go.st (fun _ => XS.iconst X0.here C.hx rfl (hb C.hby d4_121)) ?_
        show Go p e below s n0 _ _ _ (T0.setTop (mkF m 122 #[.val (.ref a1), .val (.int (5 : Int32)), .val (.int (3 : Int32)), .val (.int (2 : Int32)), .val (.int (0 : Int32))] [(.int (4 : Int32)), (.int (3 : Int32))]))
        refine Go.icmp_le C X0 (pc' := 149) d4_122 (by decide) (by decide) (fun _ => ?_) (fun hc => absurd hc (by decide))
        show Go p e below s n0 _ _ _ (T0.setTop (mkF m 149 #[.val (.ref a1), .val (.int (5 : Int32)), .val (.int (3 : Int32)), .val (.int (2 : Int32)), .val (.int (0 : Int32))] []))
        refine Go.st (fun _ => XS.iload X0.here C.hx rfl (hb C.hby d4_149) rfl) ?_
        show Go p e below s n0 _ _ _ (T0.setTop (mkF m 151 #[.val (.ref a1), .val (.int (5 : Int32)), .val (.int (3 : Int32)), .val (.int (2 : Int32)), .val (.int (0 : Int32))] [(.int (0 : Int32))]))
        exact Go.retZ C X0 (by decide) d4_151 ⟨by simp [b2i, sameE, Esl, List.range_succ, hc23_232, hc52_241, hc81_248], rfl⟩ (by decide) (by decide)
      · show Go p e below s n0 _ _ _ (T0.setTop (mkF m 84 #[.val (.ref a1), .val (.int (5 : Int32)), .val (.int (3 : Int32)), .val (.int (2 : Int32)), .val (.int (1 : Int32))] []))
        refine Go.st (fun _ => XS.iconst X0.here C.hx rfl (hb C.hby d4_84)) ?_
        show Go p e below s n0 _ _ _ (T0.setTop (mkF m 85 #[.val (.ref a1), .val (.int (5 : Int32)), .val (.int (3 : Int32)), .val (.int (2 : Int32)), .val (.int (1 : Int32))] [(.int (1 : Int32))]))
        refine Go.st (fun _ => XS.goto X0.here C.hx rfl (pc0 := 85) (pc' := 89) rfl (hb C.hby d4_85) (by decide) (by decide)) ?_
        show Go p e below s n0 _ _ _ (T0.setTop (mkF m 89 #[.val (.ref a1), .val (.int (5 : Int32)), .val (.int (3 : Int32)), .val (.int (2 : Int32)), .val (.int (1 : Int32))] [(.int (1 : Int32))]))
        refine Go.st (fun _ => XS.istore X0.here C.hx rfl (hb C.hby d4_89) rfl (l' := #[.val (.ref a1), .val (.int (5 : Int32)), .val (.int (3 : Int32)), .val (.int (2 : Int32)), .val (.int (1 : Int32))]) rfl) ?_
        show Go p e below s n0 _ _ _ (T0.setTop (mkF m 91 #[.val (.ref a1), .val (.int (5 : Int32)), .val (.int (3 : Int32)), .val (.int (2 : Int32)), .val (.int (1 : Int32))] []))
        refine Go.st (fun _ => XS.iloadN X0.here C.hx rfl (hb C.hby d4_91) rfl) ?_
        show Go p e below s n0 _ _ _ (T0.setTop (mkF m 92 #[.val (.ref a1), .val (.int (5 : Int32)), .val (.int (3 : Int32)), .val (.int (2 : Int32)), .val (.int (1 : Int32))] [(.int (3 : Int32))]))
        refine Go.st (fun _ => XS.iconst X0.here C.hx rfl (hb C.hby d4_92)) ?_
        show Go p e below s n0 _ _ _ (T0.setTop (mkF m 93 #[.val (.ref a1), .val (.int (5 : Int32)), .val (.int (3 : Int32)), .val (.int (2 : Int32)), .val (.int (1 : Int32))] [(.int (3 : Int32)), (.int (3 : Int32))]))
        refine Go.icmp_le C X0 (pc' := 120) d4_93 (by decide) (by decide) (fun _ => ?_) (fun hc => absurd hc (by decide))
        show Go p e below s n0 _ _ _ (T0.setTop (mkF m 120 #[.val (.ref a1), .val (.int (5 : Int32)), .val (.int (3 : Int32)), .val (.int (2 : Int32)), .val (.int (1 : Int32))] []))
        refine Go.st (fun _ => XS.iloadN X0.here C.hx rfl (hb C.hby d4_120) rfl) ?_
        show Go p e below s n0 _ _ _ (T0.setTop (mkF m 121 #[.val (.ref a1), .val (.int (5 : Int32)), .val (.int (3 : Int32)), .val (.int (2 : Int32)), .val (.int (1 : Int32))] [(.int (3 : Int32))]))
        refine Go.st (fun _ => XS.iconst X0.here C.hx rfl (hb C.hby d4_121)) ?_
        show Go p e below s n0 _ _ _ (T0.setTop (mkF m 122 #[.val (.ref a1), .val (.int (5 : Int32)), .val (.int (3 : Int32)), .val (.int (2 : Int32)), .val (.int (1 : Int32))] [(.int (4 : Int32)), (.int (3 : Int32))]))
        refine Go.icmp_le C X0 (pc' := 149) d4_122 (by decide) (by decide) (fun _ => ?_) (fun hc => absurd hc (by decide))
        show Go p e below s n0 _ _ _ (T0.setTop (mkF m 149 #[.val (.ref a1), .val (.int (5 : Int32)), .val (.int (3 : Int32)), .val (.int (2 : Int32)), .val (.int (1 : Int32))] []))
        refine Go.st (fun _ => XS.iload X0.here C.hx rfl (hb C.hby d4_149) rfl) ?_
        show Go p e below s n0 _ _ _ (T0.setTop (mkF m 151 #[.val (.ref a1), .val (.int (5 : Int32)), .val (.int (3 : Int32)), .val (.int (2 : Int32)), .val (.int (1 : Int32))] [(.int (1 : Int32))]))
        exact Go.retZ C X0 (by decide) d4_151 ⟨by simp [b2i, sameE, Esl, List.range_succ, hc23_232, hc52_241, hc81_248], rfl⟩ (by decide) (by decide)
set_option maxRecDepth 65536 in
set_option maxHeartbeats 40000000 in
theorem con_same_5_4 (l : Launch) (Z : State) (a0 : Array Value) (hw : ∀ d ∈ tables_1, d.before a0 Z = true) (n0 : Nat) (h0 : Heap) (Z0 : n0 ≤ h0.size) (a1 : Addr) (sl : List Int64) (hs : sl.length = 6) (A1 : AR Z h0 a1 .long (sl.map Value.long)) :
    Con l Z (⟨"com/example/orderly_ring/orderlyring/model/SequencesExtendBordersPinLaw", "same", "([JII)Z"⟩ : MethodName) method_3_code 5 (some .boolean) [] ({ frames := 0, cells := 0, slots := 0, locals := 0 } : Room) n0 #[(.ref a1), (.int (5 : Int32)), (.int (4 : Int32))] h0 (fun v h => v = some (.int (b2i (sameE (Esl sl) 5 4))) ∧ h = h0) := by
  refine Con.mk pf_4 hw Z0 ?_
  intro p e s m below meth c T0 C X0
  have ef : entryFrame m #[(.ref a1), (.int (5 : Int32)), (.int (4 : Int32))] 5 = mkF m 0 #[.val (.ref a1), .val (.int (5 : Int32)), .val (.int (4 : Int32)), .unset, .unset] [] := by first | (simp [entryFrame, mkF, argsToLocals, Value.category]; done) | rfl
  rw [ef]
  show Go p e below s n0 _ _ _ (T0.setTop (mkF m 0 #[.val (.ref a1), .val (.int (5 : Int32)), .val (.int (4 : Int32)), .unset, .unset] []))
  refine Go.st (fun _ => XS.iloadN X0.here C.hx rfl (hb C.hby d4_0) rfl) ?_
  show Go p e below s n0 _ _ _ (T0.setTop (mkF m 1 #[.val (.ref a1), .val (.int (5 : Int32)), .val (.int (4 : Int32)), .unset, .unset] [(.int (5 : Int32))]))
  refine Go.st (fun _ => XS.iloadN X0.here C.hx rfl (hb C.hby d4_1) rfl) ?_
  show Go p e below s n0 _ _ _ (T0.setTop (mkF m 2 #[.val (.ref a1), .val (.int (5 : Int32)), .val (.int (4 : Int32)), .unset, .unset] [(.int (4 : Int32)), (.int (5 : Int32))]))
  refine Go.st (fun _ => XS.isub X0.here C.hx rfl (hb C.hby d4_2) rfl) ?_
  show Go p e below s n0 _ _ _ (T0.setTop (mkF m 3 #[.val (.ref a1), .val (.int (5 : Int32)), .val (.int (4 : Int32)), .unset, .unset] [(.int (1 : Int32))]))
  refine Go.st (fun _ => XS.istoreN X0.here C.hx rfl (hb C.hby d4_3) rfl (l' := #[.val (.ref a1), .val (.int (5 : Int32)), .val (.int (4 : Int32)), .val (.int (1 : Int32)), .unset]) rfl) ?_
  show Go p e below s n0 _ _ _ (T0.setTop (mkF m 4 #[.val (.ref a1), .val (.int (5 : Int32)), .val (.int (4 : Int32)), .val (.int (1 : Int32)), .unset] []))
  refine Go.st (fun _ => XS.iconst X0.here C.hx rfl (hb C.hby d4_4)) ?_
  show Go p e below s n0 _ _ _ (T0.setTop (mkF m 5 #[.val (.ref a1), .val (.int (5 : Int32)), .val (.int (4 : Int32)), .val (.int (1 : Int32)), .unset] [(.int (1 : Int32))]))
  refine Go.st (fun _ => XS.istore X0.here C.hx rfl (hb C.hby d4_5) rfl (l' := #[.val (.ref a1), .val (.int (5 : Int32)), .val (.int (4 : Int32)), .val (.int (1 : Int32)), .val (.int (1 : Int32))]) rfl) ?_
  show Go p e below s n0 _ _ _ (T0.setTop (mkF m 7 #[.val (.ref a1), .val (.int (5 : Int32)), .val (.int (4 : Int32)), .val (.int (1 : Int32)), .val (.int (1 : Int32))] []))
  refine Go.st (fun _ => XS.iloadN X0.here C.hx rfl (hb C.hby d4_7) rfl) ?_
  show Go p e below s n0 _ _ _ (T0.setTop (mkF m 8 #[.val (.ref a1), .val (.int (5 : Int32)), .val (.int (4 : Int32)), .val (.int (1 : Int32)), .val (.int (1 : Int32))] [(.int (4 : Int32))]))
  refine Go.if_le C X0 (pc' := 33) d4_8 (by decide) (by decide) (fun hc => absurd hc (by decide)) (fun _ => ?_)
  show Go p e below s n0 _ _ _ (T0.setTop (mkF m 11 #[.val (.ref a1), .val (.int (5 : Int32)), .val (.int (4 : Int32)), .val (.int (1 : Int32)), .val (.int (1 : Int32))] []))
  refine Go.st (fun _ => XS.iload X0.here C.hx rfl (hb C.hby d4_11) rfl) ?_
  show Go p e below s n0 _ _ _ (T0.setTop (mkF m 13 #[.val (.ref a1), .val (.int (5 : Int32)), .val (.int (4 : Int32)), .val (.int (1 : Int32)), .val (.int (1 : Int32))] [(.int (1 : Int32))]))
  refine Go.if_eq C X0 (pc' := 30) d4_13 (by decide) (by decide) (fun hc => absurd hc (by decide)) (fun _ => ?_)
  show Go p e below s n0 _ _ _ (T0.setTop (mkF m 16 #[.val (.ref a1), .val (.int (5 : Int32)), .val (.int (4 : Int32)), .val (.int (1 : Int32)), .val (.int (1 : Int32))] []))
  refine Go.st (fun _ => XS.aloadN X0.here C.hx rfl (hb C.hby d4_16) rfl rfl) ?_
  show Go p e below s n0 _ _ _ (T0.setTop (mkF m 17 #[.val (.ref a1), .val (.int (5 : Int32)), .val (.int (4 : Int32)), .val (.int (1 : Int32)), .val (.int (1 : Int32))] [(.ref a1)]))
  refine Go.st (fun _ => XS.iconst X0.here C.hx rfl (hb C.hby d4_17)) ?_
  show Go p e below s n0 _ _ _ (T0.setTop (mkF m 18 #[.val (.ref a1), .val (.int (5 : Int32)), .val (.int (4 : Int32)), .val (.int (1 : Int32)), .val (.int (1 : Int32))] [(.int (0 : Int32)), (.ref a1)]))
  refine Go.laload C X0 A1 (by decide) (getL (i := 0) hs (by decide)) d4_18 ?_
  show Go p e below s n0 _ _ _ (T0.setTop (mkF m 19 #[.val (.ref a1), .val (.int (5 : Int32)), .val (.int (4 : Int32)), .val (.int (1 : Int32)), .val (.int (1 : Int32))] [(.long (el sl 0))]))
  refine Go.st (fun _ => XS.aloadN X0.here C.hx rfl (hb C.hby d4_19) rfl rfl) ?_
  show Go p e below s n0 _ _ _ (T0.setTop (mkF m 20 #[.val (.ref a1), .val (.int (5 : Int32)), .val (.int (4 : Int32)), .val (.int (1 : Int32)), .val (.int (1 : Int32))] [(.ref a1), (.long (el sl 0))]))
  refine Go.st (fun _ => XS.iloadN X0.here C.hx rfl (hb C.hby d4_20) rfl) ?_
  show Go p e below s n0 _ _ _ (T0.setTop (mkF m 21 #[.val (.ref a1), .val (.int (5 : Int32)), .val (.int (4 : Int32)), .val (.int (1 : Int32)), .val (.int (1 : Int32))] [(.int (1 : Int32)), (.ref a1), (.long (el sl 0))]))
  refine Go.laload C X0 A1 (by decide) (getL (i := 1) hs (by decide)) d4_21 ?_
  show Go p e below s n0 _ _ _ (T0.setTop (mkF m 22 #[.val (.ref a1), .val (.int (5 : Int32)), .val (.int (4 : Int32)), .val (.int (1 : Int32)), .val (.int (1 : Int32))] [(.long (el sl 1)), (.long (el sl 0))]))
  refine Go.st (fun _ => XS.lcmp X0.here C.hx rfl (hb C.hby d4_22) rfl) ?_
  show Go p e below s n0 _ _ _ (T0.setTop (mkF m 23 #[.val (.ref a1), .val (.int (5 : Int32)), .val (.int (4 : Int32)), .val (.int (1 : Int32)), .val (.int (1 : Int32))] [(.int (lcmpW (el sl 0) (el sl 1)))]))
  refine Go.lif_ne C X0 (pc' := 30) d4_23 (by decide) (by decide) (fun hc23_255 => ?_) (fun hc23_255 => ?_)
  · show Go p e below s n0 _ _ _ (T0.setTop (mkF m 30 #[.val (.ref a1), .val (.int (5 : Int32)), .val (.int (4 : Int32)), .val (.int (1 : Int32)), .val (.int (1 : Int32))] []))
    refine Go.st (fun _ => XS.iconst X0.here C.hx rfl (hb C.hby d4_30)) ?_
    show Go p e below s n0 _ _ _ (T0.setTop (mkF m 31 #[.val (.ref a1), .val (.int (5 : Int32)), .val (.int (4 : Int32)), .val (.int (1 : Int32)), .val (.int (1 : Int32))] [(.int (0 : Int32))]))
    refine Go.st (fun _ => XS.istore X0.here C.hx rfl (hb C.hby d4_31) rfl (l' := #[.val (.ref a1), .val (.int (5 : Int32)), .val (.int (4 : Int32)), .val (.int (1 : Int32)), .val (.int (0 : Int32))]) rfl) ?_
    show Go p e below s n0 _ _ _ (T0.setTop (mkF m 33 #[.val (.ref a1), .val (.int (5 : Int32)), .val (.int (4 : Int32)), .val (.int (1 : Int32)), .val (.int (0 : Int32))] []))
    refine Go.st (fun _ => XS.iloadN X0.here C.hx rfl (hb C.hby d4_33) rfl) ?_
    show Go p e below s n0 _ _ _ (T0.setTop (mkF m 34 #[.val (.ref a1), .val (.int (5 : Int32)), .val (.int (4 : Int32)), .val (.int (1 : Int32)), .val (.int (0 : Int32))] [(.int (4 : Int32))]))
    refine Go.st (fun _ => XS.iconst X0.here C.hx rfl (hb C.hby d4_34)) ?_
    show Go p e below s n0 _ _ _ (T0.setTop (mkF m 35 #[.val (.ref a1), .val (.int (5 : Int32)), .val (.int (4 : Int32)), .val (.int (1 : Int32)), .val (.int (0 : Int32))] [(.int (1 : Int32)), (.int (4 : Int32))]))
    refine Go.icmp_le C X0 (pc' := 62) d4_35 (by decide) (by decide) (fun hc => absurd hc (by decide)) (fun _ => ?_)
    show Go p e below s n0 _ _ _ (T0.setTop (mkF m 38 #[.val (.ref a1), .val (.int (5 : Int32)), .val (.int (4 : Int32)), .val (.int (1 : Int32)), .val (.int (0 : Int32))] []))
    refine Go.st (fun _ => XS.iload X0.here C.hx rfl (hb C.hby d4_38) rfl) ?_
    show Go p e below s n0 _ _ _ (T0.setTop (mkF m 40 #[.val (.ref a1), .val (.int (5 : Int32)), .val (.int (4 : Int32)), .val (.int (1 : Int32)), .val (.int (0 : Int32))] [(.int (0 : Int32))]))
    refine Go.if_eq C X0 (pc' := 59) d4_40 (by decide) (by decide) (fun _ => ?_) (fun hc => absurd hc (by decide))
    show Go p e below s n0 _ _ _ (T0.setTop (mkF m 59 #[.val (.ref a1), .val (.int (5 : Int32)), .val (.int (4 : Int32)), .val (.int (1 : Int32)), .val (.int (0 : Int32))] []))
    refine Go.st (fun _ => XS.iconst X0.here C.hx rfl (hb C.hby d4_59)) ?_
    show Go p e below s n0 _ _ _ (T0.setTop (mkF m 60 #[.val (.ref a1), .val (.int (5 : Int32)), .val (.int (4 : Int32)), .val (.int (1 : Int32)), .val (.int (0 : Int32))] [(.int (0 : Int32))]))
    refine Go.st (fun _ => XS.istore X0.here C.hx rfl (hb C.hby d4_60) rfl (l' := #[.val (.ref a1), .val (.int (5 : Int32)), .val (.int (4 : Int32)), .val (.int (1 : Int32)), .val (.int (0 : Int32))]) rfl) ?_
    show Go p e below s n0 _ _ _ (T0.setTop (mkF m 62 #[.val (.ref a1), .val (.int (5 : Int32)), .val (.int (4 : Int32)), .val (.int (1 : Int32)), .val (.int (0 : Int32))] []))
    refine Go.st (fun _ => XS.iloadN X0.here C.hx rfl (hb C.hby d4_62) rfl) ?_
    show Go p e below s n0 _ _ _ (T0.setTop (mkF m 63 #[.val (.ref a1), .val (.int (5 : Int32)), .val (.int (4 : Int32)), .val (.int (1 : Int32)), .val (.int (0 : Int32))] [(.int (4 : Int32))]))
    refine Go.st (fun _ => XS.iconst X0.here C.hx rfl (hb C.hby d4_63)) ?_
    show Go p e below s n0 _ _ _ (T0.setTop (mkF m 64 #[.val (.ref a1), .val (.int (5 : Int32)), .val (.int (4 : Int32)), .val (.int (1 : Int32)), .val (.int (0 : Int32))] [(.int (2 : Int32)), (.int (4 : Int32))]))
    refine Go.icmp_le C X0 (pc' := 91) d4_64 (by decide) (by decide) (fun hc => absurd hc (by decide)) (fun _ => ?_)
    show Go p e below s n0 _ _ _ (T0.setTop (mkF m 67 #[.val (.ref a1), .val (.int (5 : Int32)), .val (.int (4 : Int32)), .val (.int (1 : Int32)), .val (.int (0 : Int32))] []))
    refine Go.st (fun _ => XS.iload X0.here C.hx rfl (hb C.hby d4_67) rfl) ?_
    show Go p e below s n0 _ _ _ (T0.setTop (mkF m 69 #[.val (.ref a1), .val (.int (5 : Int32)), .val (.int (4 : Int32)), .val (.int (1 : Int32)), .val (.int (0 : Int32))] [(.int (0 : Int32))]))
    refine Go.if_eq C X0 (pc' := 88) d4_69 (by decide) (by decide) (fun _ => ?_) (fun hc => absurd hc (by decide))
    show Go p e below s n0 _ _ _ (T0.setTop (mkF m 88 #[.val (.ref a1), .val (.int (5 : Int32)), .val (.int (4 : Int32)), .val (.int (1 : Int32)), .val (.int (0 : Int32))] []))
    refine Go.st (fun _ => XS.iconst X0.here C.hx rfl (hb C.hby d4_88)) ?_
    show Go p e below s n0 _ _ _ (T0.setTop (mkF m 89 #[.val (.ref a1), .val (.int (5 : Int32)), .val (.int (4 : Int32)), .val (.int (1 : Int32)), .val (.int (0 : Int32))] [(.int (0 : Int32))]))
    refine Go.st (fun _ => XS.istore X0.here C.hx rfl (hb C.hby d4_89) rfl (l' := #[.val (.ref a1), .val (.int (5 : Int32)), .val (.int (4 : Int32)), .val (.int (1 : Int32)), .val (.int (0 : Int32))]) rfl) ?_
    show Go p e below s n0 _ _ _ (T0.setTop (mkF m 91 #[.val (.ref a1), .val (.int (5 : Int32)), .val (.int (4 : Int32)), .val (.int (1 : Int32)), .val (.int (0 : Int32))] []))
    refine Go.st (fun _ => XS.iloadN X0.here C.hx rfl (hb C.hby d4_91) rfl) ?_
    show Go p e below s n0 _ _ _ (T0.setTop (mkF m 92 #[.val (.ref a1), .val (.int (5 : Int32)), .val (.int (4 : Int32)), .val (.int (1 : Int32)), .val (.int (0 : Int32))] [(.int (4 : Int32))]))
    refine Go.st (fun _ => XS.iconst X0.here C.hx rfl (hb C.hby d4_92)) ?_
    show Go p e below s n0 _ _ _ (T0.setTop (mkF m 93 #[.val (.ref a1), .val (.int (5 : Int32)), .val (.int (4 : Int32)), .val (.int (1 : Int32)), .val (.int (0 : Int32))] [(.int (3 : Int32)), (.int (4 : Int32))]))
    refine Go.icmp_le C X0 (pc' := 120) d4_93 (by decide) (by decide) (fun hc => absurd hc (by decide)) (fun _ => ?_)
    show Go p e below s n0 _ _ _ (T0.setTop (mkF m 96 #[.val (.ref a1), .val (.int (5 : Int32)), .val (.int (4 : Int32)), .val (.int (1 : Int32)), .val (.int (0 : Int32))] []))
    refine Go.st (fun _ => XS.iload X0.here C.hx rfl (hb C.hby d4_96) rfl) ?_
    show Go p e below s n0 _ _ _ (T0.setTop (mkF m 98 #[.val (.ref a1), .val (.int (5 : Int32)), .val (.int (4 : Int32)), .val (.int (1 : Int32)), .val (.int (0 : Int32))] [(.int (0 : Int32))]))
    refine Go.if_eq C X0 (pc' := 117) d4_98 (by decide) (by decide) (fun _ => ?_) (fun hc => absurd hc (by decide))
    show Go p e below s n0 _ _ _ (T0.setTop (mkF m 117 #[.val (.ref a1), .val (.int (5 : Int32)), .val (.int (4 : Int32)), .val (.int (1 : Int32)), .val (.int (0 : Int32))] []))
    refine Go.st (fun _ => XS.iconst X0.here C.hx rfl (hb C.hby d4_117)) ?_
    show Go p e below s n0 _ _ _ (T0.setTop (mkF m 118 #[.val (.ref a1), .val (.int (5 : Int32)), .val (.int (4 : Int32)), .val (.int (1 : Int32)), .val (.int (0 : Int32))] [(.int (0 : Int32))]))
    refine Go.st (fun _ => XS.istore X0.here C.hx rfl (hb C.hby d4_118) rfl (l' := #[.val (.ref a1), .val (.int (5 : Int32)), .val (.int (4 : Int32)), .val (.int (1 : Int32)), .val (.int (0 : Int32))]) rfl) ?_
    show Go p e below s n0 _ _ _ (T0.setTop (mkF m 120 #[.val (.ref a1), .val (.int (5 : Int32)), .val (.int (4 : Int32)), .val (.int (1 : Int32)), .val (.int (0 : Int32))] []))
    refine Go.st (fun _ => XS.iloadN X0.here C.hx rfl (hb C.hby d4_120) rfl) ?_
    show Go p e below s n0 _ _ _ (T0.setTop (mkF m 121 #[.val (.ref a1), .val (.int (5 : Int32)), .val (.int (4 : Int32)), .val (.int (1 : Int32)), .val (.int (0 : Int32))] [(.int (4 : Int32))]))
    refine Go.st (fun _ => XS.iconst X0.here C.hx rfl (hb C.hby d4_121)) ?_
    show Go p e below s n0 _ _ _ (T0.setTop (mkF m 122 #[.val (.ref a1), .val (.int (5 : Int32)), .val (.int (4 : Int32)), .val (.int (1 : Int32)), .val (.int (0 : Int32))] [(.int (4 : Int32)), (.int (4 : Int32))]))
    refine Go.icmp_le C X0 (pc' := 149) d4_122 (by decide) (by decide) (fun _ => ?_) (fun hc => absurd hc (by decide))
    show Go p e below s n0 _ _ _ (T0.setTop (mkF m 149 #[.val (.ref a1), .val (.int (5 : Int32)), .val (.int (4 : Int32)), .val (.int (1 : Int32)), .val (.int (0 : Int32))] []))
    refine Go.st (fun _ => XS.iload X0.here C.hx rfl (hb C.hby d4_149) rfl) ?_
    show Go p e below s n0 _ _ _ (T0.setTop (mkF m 151 #[.val (.ref a1), .val (.int (5 : Int32)), .val (.int (4 : Int32)), .val (.int (1 : Int32)), .val (.int (0 : Int32))] [(.int (0 : Int32))]))
    exact Go.retZ C X0 (by decide) d4_151 ⟨by simp [b2i, sameE, Esl, List.range_succ, hc23_255], rfl⟩ (by decide) (by decide)
  · show Go p e below s n0 _ _ _ (T0.setTop (mkF m 26 #[.val (.ref a1), .val (.int (5 : Int32)), .val (.int (4 : Int32)), .val (.int (1 : Int32)), .val (.int (1 : Int32))] []))
    refine Go.st (fun _ => XS.iconst X0.here C.hx rfl (hb C.hby d4_26)) ?_
    show Go p e below s n0 _ _ _ (T0.setTop (mkF m 27 #[.val (.ref a1), .val (.int (5 : Int32)), .val (.int (4 : Int32)), .val (.int (1 : Int32)), .val (.int (1 : Int32))] [(.int (1 : Int32))]))
    refine Go.st (fun _ => XS.goto X0.here C.hx rfl (pc0 := 27) (pc' := 31) rfl (hb C.hby d4_27) (by decide) (by decide)) ?_
    show Go p e below s n0 _ _ _ (T0.setTop (mkF m 31 #[.val (.ref a1), .val (.int (5 : Int32)), .val (.int (4 : Int32)), .val (.int (1 : Int32)), .val (.int (1 : Int32))] [(.int (1 : Int32))]))
    refine Go.st (fun _ => XS.istore X0.here C.hx rfl (hb C.hby d4_31) rfl (l' := #[.val (.ref a1), .val (.int (5 : Int32)), .val (.int (4 : Int32)), .val (.int (1 : Int32)), .val (.int (1 : Int32))]) rfl) ?_
    show Go p e below s n0 _ _ _ (T0.setTop (mkF m 33 #[.val (.ref a1), .val (.int (5 : Int32)), .val (.int (4 : Int32)), .val (.int (1 : Int32)), .val (.int (1 : Int32))] []))
    refine Go.st (fun _ => XS.iloadN X0.here C.hx rfl (hb C.hby d4_33) rfl) ?_
    show Go p e below s n0 _ _ _ (T0.setTop (mkF m 34 #[.val (.ref a1), .val (.int (5 : Int32)), .val (.int (4 : Int32)), .val (.int (1 : Int32)), .val (.int (1 : Int32))] [(.int (4 : Int32))]))
    refine Go.st (fun _ => XS.iconst X0.here C.hx rfl (hb C.hby d4_34)) ?_
    show Go p e below s n0 _ _ _ (T0.setTop (mkF m 35 #[.val (.ref a1), .val (.int (5 : Int32)), .val (.int (4 : Int32)), .val (.int (1 : Int32)), .val (.int (1 : Int32))] [(.int (1 : Int32)), (.int (4 : Int32))]))
    refine Go.icmp_le C X0 (pc' := 62) d4_35 (by decide) (by decide) (fun hc => absurd hc (by decide)) (fun _ => ?_)
    show Go p e below s n0 _ _ _ (T0.setTop (mkF m 38 #[.val (.ref a1), .val (.int (5 : Int32)), .val (.int (4 : Int32)), .val (.int (1 : Int32)), .val (.int (1 : Int32))] []))
    refine Go.st (fun _ => XS.iload X0.here C.hx rfl (hb C.hby d4_38) rfl) ?_
    show Go p e below s n0 _ _ _ (T0.setTop (mkF m 40 #[.val (.ref a1), .val (.int (5 : Int32)), .val (.int (4 : Int32)), .val (.int (1 : Int32)), .val (.int (1 : Int32))] [(.int (1 : Int32))]))
    refine Go.if_eq C X0 (pc' := 59) d4_40 (by decide) (by decide) (fun hc => absurd hc (by decide)) (fun _ => ?_)
    show Go p e below s n0 _ _ _ (T0.setTop (mkF m 43 #[.val (.ref a1), .val (.int (5 : Int32)), .val (.int (4 : Int32)), .val (.int (1 : Int32)), .val (.int (1 : Int32))] []))
    refine Go.st (fun _ => XS.aloadN X0.here C.hx rfl (hb C.hby d4_43) rfl rfl) ?_
    show Go p e below s n0 _ _ _ (T0.setTop (mkF m 44 #[.val (.ref a1), .val (.int (5 : Int32)), .val (.int (4 : Int32)), .val (.int (1 : Int32)), .val (.int (1 : Int32))] [(.ref a1)]))
    refine Go.st (fun _ => XS.iconst X0.here C.hx rfl (hb C.hby d4_44)) ?_
    show Go p e below s n0 _ _ _ (T0.setTop (mkF m 45 #[.val (.ref a1), .val (.int (5 : Int32)), .val (.int (4 : Int32)), .val (.int (1 : Int32)), .val (.int (1 : Int32))] [(.int (1 : Int32)), (.ref a1)]))
    refine Go.laload C X0 A1 (by decide) (getL (i := 1) hs (by decide)) d4_45 ?_
    show Go p e below s n0 _ _ _ (T0.setTop (mkF m 46 #[.val (.ref a1), .val (.int (5 : Int32)), .val (.int (4 : Int32)), .val (.int (1 : Int32)), .val (.int (1 : Int32))] [(.long (el sl 1))]))
    refine Go.st (fun _ => XS.aloadN X0.here C.hx rfl (hb C.hby d4_46) rfl rfl) ?_
    show Go p e below s n0 _ _ _ (T0.setTop (mkF m 47 #[.val (.ref a1), .val (.int (5 : Int32)), .val (.int (4 : Int32)), .val (.int (1 : Int32)), .val (.int (1 : Int32))] [(.ref a1), (.long (el sl 1))]))
    refine Go.st (fun _ => XS.iloadN X0.here C.hx rfl (hb C.hby d4_47) rfl) ?_
    show Go p e below s n0 _ _ _ (T0.setTop (mkF m 48 #[.val (.ref a1), .val (.int (5 : Int32)), .val (.int (4 : Int32)), .val (.int (1 : Int32)), .val (.int (1 : Int32))] [(.int (1 : Int32)), (.ref a1), (.long (el sl 1))]))
    refine Go.st (fun _ => XS.iconst X0.here C.hx rfl (hb C.hby d4_48)) ?_
    show Go p e below s n0 _ _ _ (T0.setTop (mkF m 49 #[.val (.ref a1), .val (.int (5 : Int32)), .val (.int (4 : Int32)), .val (.int (1 : Int32)), .val (.int (1 : Int32))] [(.int (1 : Int32)), (.int (1 : Int32)), (.ref a1), (.long (el sl 1))]))
    refine Go.st (fun _ => XS.iadd X0.here C.hx rfl (hb C.hby d4_49) rfl) ?_
    show Go p e below s n0 _ _ _ (T0.setTop (mkF m 50 #[.val (.ref a1), .val (.int (5 : Int32)), .val (.int (4 : Int32)), .val (.int (1 : Int32)), .val (.int (1 : Int32))] [(.int (2 : Int32)), (.ref a1), (.long (el sl 1))]))
    refine Go.laload C X0 A1 (by decide) (getL (i := 2) hs (by decide)) d4_50 ?_
    show Go p e below s n0 _ _ _ (T0.setTop (mkF m 51 #[.val (.ref a1), .val (.int (5 : Int32)), .val (.int (4 : Int32)), .val (.int (1 : Int32)), .val (.int (1 : Int32))] [(.long (el sl 2)), (.long (el sl 1))]))
    refine Go.st (fun _ => XS.lcmp X0.here C.hx rfl (hb C.hby d4_51) rfl) ?_
    show Go p e below s n0 _ _ _ (T0.setTop (mkF m 52 #[.val (.ref a1), .val (.int (5 : Int32)), .val (.int (4 : Int32)), .val (.int (1 : Int32)), .val (.int (1 : Int32))] [(.int (lcmpW (el sl 1) (el sl 2)))]))
    refine Go.lif_ne C X0 (pc' := 59) d4_52 (by decide) (by decide) (fun hc52_265 => ?_) (fun hc52_265 => ?_)
    · show Go p e below s n0 _ _ _ (T0.setTop (mkF m 59 #[.val (.ref a1), .val (.int (5 : Int32)), .val (.int (4 : Int32)), .val (.int (1 : Int32)), .val (.int (1 : Int32))] []))
      refine Go.st (fun _ => XS.iconst X0.here C.hx rfl (hb C.hby d4_59)) ?_
      show Go p e below s n0 _ _ _ (T0.setTop (mkF m 60 #[.val (.ref a1), .val (.int (5 : Int32)), .val (.int (4 : Int32)), .val (.int (1 : Int32)), .val (.int (1 : Int32))] [(.int (0 : Int32))]))
      refine Go.st (fun _ => XS.istore X0.here C.hx rfl (hb C.hby d4_60) rfl (l' := #[.val (.ref a1), .val (.int (5 : Int32)), .val (.int (4 : Int32)), .val (.int (1 : Int32)), .val (.int (0 : Int32))]) rfl) ?_
      show Go p e below s n0 _ _ _ (T0.setTop (mkF m 62 #[.val (.ref a1), .val (.int (5 : Int32)), .val (.int (4 : Int32)), .val (.int (1 : Int32)), .val (.int (0 : Int32))] []))
      refine Go.st (fun _ => XS.iloadN X0.here C.hx rfl (hb C.hby d4_62) rfl) ?_
      show Go p e below s n0 _ _ _ (T0.setTop (mkF m 63 #[.val (.ref a1), .val (.int (5 : Int32)), .val (.int (4 : Int32)), .val (.int (1 : Int32)), .val (.int (0 : Int32))] [(.int (4 : Int32))]))
      refine Go.st (fun _ => XS.iconst X0.here C.hx rfl (hb C.hby d4_63)) ?_
      show Go p e below s n0 _ _ _ (T0.setTop (mkF m 64 #[.val (.ref a1), .val (.int (5 : Int32)), .val (.int (4 : Int32)), .val (.int (1 : Int32)), .val (.int (0 : Int32))] [(.int (2 : Int32)), (.int (4 : Int32))]))
      refine Go.icmp_le C X0 (pc' := 91) d4_64 (by decide) (by decide) (fun hc => absurd hc (by decide)) (fun _ => ?_)
      show Go p e below s n0 _ _ _ (T0.setTop (mkF m 67 #[.val (.ref a1), .val (.int (5 : Int32)), .val (.int (4 : Int32)), .val (.int (1 : Int32)), .val (.int (0 : Int32))] []))
      refine Go.st (fun _ => XS.iload X0.here C.hx rfl (hb C.hby d4_67) rfl) ?_
      show Go p e below s n0 _ _ _ (T0.setTop (mkF m 69 #[.val (.ref a1), .val (.int (5 : Int32)), .val (.int (4 : Int32)), .val (.int (1 : Int32)), .val (.int (0 : Int32))] [(.int (0 : Int32))]))
      refine Go.if_eq C X0 (pc' := 88) d4_69 (by decide) (by decide) (fun _ => ?_) (fun hc => absurd hc (by decide))
      show Go p e below s n0 _ _ _ (T0.setTop (mkF m 88 #[.val (.ref a1), .val (.int (5 : Int32)), .val (.int (4 : Int32)), .val (.int (1 : Int32)), .val (.int (0 : Int32))] []))
      refine Go.st (fun _ => XS.iconst X0.here C.hx rfl (hb C.hby d4_88)) ?_
      show Go p e below s n0 _ _ _ (T0.setTop (mkF m 89 #[.val (.ref a1), .val (.int (5 : Int32)), .val (.int (4 : Int32)), .val (.int (1 : Int32)), .val (.int (0 : Int32))] [(.int (0 : Int32))]))
      refine Go.st (fun _ => XS.istore X0.here C.hx rfl (hb C.hby d4_89) rfl (l' := #[.val (.ref a1), .val (.int (5 : Int32)), .val (.int (4 : Int32)), .val (.int (1 : Int32)), .val (.int (0 : Int32))]) rfl) ?_
      show Go p e below s n0 _ _ _ (T0.setTop (mkF m 91 #[.val (.ref a1), .val (.int (5 : Int32)), .val (.int (4 : Int32)), .val (.int (1 : Int32)), .val (.int (0 : Int32))] []))
      refine Go.st (fun _ => XS.iloadN X0.here C.hx rfl (hb C.hby d4_91) rfl) ?_
      show Go p e below s n0 _ _ _ (T0.setTop (mkF m 92 #[.val (.ref a1), .val (.int (5 : Int32)), .val (.int (4 : Int32)), .val (.int (1 : Int32)), .val (.int (0 : Int32))] [(.int (4 : Int32))]))
      refine Go.st (fun _ => XS.iconst X0.here C.hx rfl (hb C.hby d4_92)) ?_
      show Go p e below s n0 _ _ _ (T0.setTop (mkF m 93 #[.val (.ref a1), .val (.int (5 : Int32)), .val (.int (4 : Int32)), .val (.int (1 : Int32)), .val (.int (0 : Int32))] [(.int (3 : Int32)), (.int (4 : Int32))]))
      refine Go.icmp_le C X0 (pc' := 120) d4_93 (by decide) (by decide) (fun hc => absurd hc (by decide)) (fun _ => ?_)
      show Go p e below s n0 _ _ _ (T0.setTop (mkF m 96 #[.val (.ref a1), .val (.int (5 : Int32)), .val (.int (4 : Int32)), .val (.int (1 : Int32)), .val (.int (0 : Int32))] []))
      refine Go.st (fun _ => XS.iload X0.here C.hx rfl (hb C.hby d4_96) rfl) ?_
      show Go p e below s n0 _ _ _ (T0.setTop (mkF m 98 #[.val (.ref a1), .val (.int (5 : Int32)), .val (.int (4 : Int32)), .val (.int (1 : Int32)), .val (.int (0 : Int32))] [(.int (0 : Int32))]))
      refine Go.if_eq C X0 (pc' := 117) d4_98 (by decide) (by decide) (fun _ => ?_) (fun hc => absurd hc (by decide))
      show Go p e below s n0 _ _ _ (T0.setTop (mkF m 117 #[.val (.ref a1), .val (.int (5 : Int32)), .val (.int (4 : Int32)), .val (.int (1 : Int32)), .val (.int (0 : Int32))] []))
      refine Go.st (fun _ => XS.iconst X0.here C.hx rfl (hb C.hby d4_117)) ?_
      show Go p e below s n0 _ _ _ (T0.setTop (mkF m 118 #[.val (.ref a1), .val (.int (5 : Int32)), .val (.int (4 : Int32)), .val (.int (1 : Int32)), .val (.int (0 : Int32))] [(.int (0 : Int32))]))
      refine Go.st (fun _ => XS.istore X0.here C.hx rfl (hb C.hby d4_118) rfl (l' := #[.val (.ref a1), .val (.int (5 : Int32)), .val (.int (4 : Int32)), .val (.int (1 : Int32)), .val (.int (0 : Int32))]) rfl) ?_
      show Go p e below s n0 _ _ _ (T0.setTop (mkF m 120 #[.val (.ref a1), .val (.int (5 : Int32)), .val (.int (4 : Int32)), .val (.int (1 : Int32)), .val (.int (0 : Int32))] []))
      refine Go.st (fun _ => XS.iloadN X0.here C.hx rfl (hb C.hby d4_120) rfl) ?_
      show Go p e below s n0 _ _ _ (T0.setTop (mkF m 121 #[.val (.ref a1), .val (.int (5 : Int32)), .val (.int (4 : Int32)), .val (.int (1 : Int32)), .val (.int (0 : Int32))] [(.int (4 : Int32))]))
      refine Go.st (fun _ => XS.iconst X0.here C.hx rfl (hb C.hby d4_121)) ?_
      show Go p e below s n0 _ _ _ (T0.setTop (mkF m 122 #[.val (.ref a1), .val (.int (5 : Int32)), .val (.int (4 : Int32)), .val (.int (1 : Int32)), .val (.int (0 : Int32))] [(.int (4 : Int32)), (.int (4 : Int32))]))
      refine Go.icmp_le C X0 (pc' := 149) d4_122 (by decide) (by decide) (fun _ => ?_) (fun hc => absurd hc (by decide))
      show Go p e below s n0 _ _ _ (T0.setTop (mkF m 149 #[.val (.ref a1), .val (.int (5 : Int32)), .val (.int (4 : Int32)), .val (.int (1 : Int32)), .val (.int (0 : Int32))] []))
      refine Go.st (fun _ => XS.iload X0.here C.hx rfl (hb C.hby d4_149) rfl) ?_
      show Go p e below s n0 _ _ _ (T0.setTop (mkF m 151 #[.val (.ref a1), .val (.int (5 : Int32)), .val (.int (4 : Int32)), .val (.int (1 : Int32)), .val (.int (0 : Int32))] [(.int (0 : Int32))]))
      exact Go.retZ C X0 (by decide) d4_151 ⟨by simp [b2i, sameE, Esl, List.range_succ, hc23_255, hc52_265], rfl⟩ (by decide) (by decide)
    · show Go p e below s n0 _ _ _ (T0.setTop (mkF m 55 #[.val (.ref a1), .val (.int (5 : Int32)), .val (.int (4 : Int32)), .val (.int (1 : Int32)), .val (.int (1 : Int32))] []))
      refine Go.st (fun _ => XS.iconst X0.here C.hx rfl (hb C.hby d4_55)) ?_
      show Go p e below s n0 _ _ _ (T0.setTop (mkF m 56 #[.val (.ref a1), .val (.int (5 : Int32)), .val (.int (4 : Int32)), .val (.int (1 : Int32)), .val (.int (1 : Int32))] [(.int (1 : Int32))]))
      refine Go.st (fun _ => XS.goto X0.here C.hx rfl (pc0 := 56) (pc' := 60) rfl (hb C.hby d4_56) (by decide) (by decide)) ?_
      show Go p e below s n0 _ _ _ (T0.setTop (mkF m 60 #[.val (.ref a1), .val (.int (5 : Int32)), .val (.int (4 : Int32)), .val (.int (1 : Int32)), .val (.int (1 : Int32))] [(.int (1 : Int32))]))
      refine Go.st (fun _ => XS.istore X0.here C.hx rfl (hb C.hby d4_60) rfl (l' := #[.val (.ref a1), .val (.int (5 : Int32)), .val (.int (4 : Int32)), .val (.int (1 : Int32)), .val (.int (1 : Int32))]) rfl) ?_
      show Go p e below s n0 _ _ _ (T0.setTop (mkF m 62 #[.val (.ref a1), .val (.int (5 : Int32)), .val (.int (4 : Int32)), .val (.int (1 : Int32)), .val (.int (1 : Int32))] []))
      refine Go.st (fun _ => XS.iloadN X0.here C.hx rfl (hb C.hby d4_62) rfl) ?_
      show Go p e below s n0 _ _ _ (T0.setTop (mkF m 63 #[.val (.ref a1), .val (.int (5 : Int32)), .val (.int (4 : Int32)), .val (.int (1 : Int32)), .val (.int (1 : Int32))] [(.int (4 : Int32))]))
      refine Go.st (fun _ => XS.iconst X0.here C.hx rfl (hb C.hby d4_63)) ?_
      show Go p e below s n0 _ _ _ (T0.setTop (mkF m 64 #[.val (.ref a1), .val (.int (5 : Int32)), .val (.int (4 : Int32)), .val (.int (1 : Int32)), .val (.int (1 : Int32))] [(.int (2 : Int32)), (.int (4 : Int32))]))
      refine Go.icmp_le C X0 (pc' := 91) d4_64 (by decide) (by decide) (fun hc => absurd hc (by decide)) (fun _ => ?_)
      show Go p e below s n0 _ _ _ (T0.setTop (mkF m 67 #[.val (.ref a1), .val (.int (5 : Int32)), .val (.int (4 : Int32)), .val (.int (1 : Int32)), .val (.int (1 : Int32))] []))
      refine Go.st (fun _ => XS.iload X0.here C.hx rfl (hb C.hby d4_67) rfl) ?_
      show Go p e below s n0 _ _ _ (T0.setTop (mkF m 69 #[.val (.ref a1), .val (.int (5 : Int32)), .val (.int (4 : Int32)), .val (.int (1 : Int32)), .val (.int (1 : Int32))] [(.int (1 : Int32))]))
      refine Go.if_eq C X0 (pc' := 88) d4_69 (by decide) (by decide) (fun hc => absurd hc (by decide)) (fun _ => ?_)
      show Go p e below s n0 _ _ _ (T0.setTop (mkF m 72 #[.val (.ref a1), .val (.int (5 : Int32)), .val (.int (4 : Int32)), .val (.int (1 : Int32)), .val (.int (1 : Int32))] []))
      refine Go.st (fun _ => XS.aloadN X0.here C.hx rfl (hb C.hby d4_72) rfl rfl) ?_
      show Go p e below s n0 _ _ _ (T0.setTop (mkF m 73 #[.val (.ref a1), .val (.int (5 : Int32)), .val (.int (4 : Int32)), .val (.int (1 : Int32)), .val (.int (1 : Int32))] [(.ref a1)]))
      refine Go.st (fun _ => XS.iconst X0.here C.hx rfl (hb C.hby d4_73)) ?_
      show Go p e below s n0 _ _ _ (T0.setTop (mkF m 74 #[.val (.ref a1), .val (.int (5 : Int32)), .val (.int (4 : Int32)), .val (.int (1 : Int32)), .val (.int (1 : Int32))] [(.int (2 : Int32)), (.ref a1)]))
      refine Go.laload C X0 A1 (by decide) (getL (i := 2) hs (by decide)) d4_74 ?_
      show Go p e below s n0 _ _ _ (T0.setTop (mkF m 75 #[.val (.ref a1), .val (.int (5 : Int32)), .val (.int (4 : Int32)), .val (.int (1 : Int32)), .val (.int (1 : Int32))] [(.long (el sl 2))]))
      refine Go.st (fun _ => XS.aloadN X0.here C.hx rfl (hb C.hby d4_75) rfl rfl) ?_
      show Go p e below s n0 _ _ _ (T0.setTop (mkF m 76 #[.val (.ref a1), .val (.int (5 : Int32)), .val (.int (4 : Int32)), .val (.int (1 : Int32)), .val (.int (1 : Int32))] [(.ref a1), (.long (el sl 2))]))
      refine Go.st (fun _ => XS.iloadN X0.here C.hx rfl (hb C.hby d4_76) rfl) ?_
      show Go p e below s n0 _ _ _ (T0.setTop (mkF m 77 #[.val (.ref a1), .val (.int (5 : Int32)), .val (.int (4 : Int32)), .val (.int (1 : Int32)), .val (.int (1 : Int32))] [(.int (1 : Int32)), (.ref a1), (.long (el sl 2))]))
      refine Go.st (fun _ => XS.iconst X0.here C.hx rfl (hb C.hby d4_77)) ?_
      show Go p e below s n0 _ _ _ (T0.setTop (mkF m 78 #[.val (.ref a1), .val (.int (5 : Int32)), .val (.int (4 : Int32)), .val (.int (1 : Int32)), .val (.int (1 : Int32))] [(.int (2 : Int32)), (.int (1 : Int32)), (.ref a1), (.long (el sl 2))]))
      refine Go.st (fun _ => XS.iadd X0.here C.hx rfl (hb C.hby d4_78) rfl) ?_
      show Go p e below s n0 _ _ _ (T0.setTop (mkF m 79 #[.val (.ref a1), .val (.int (5 : Int32)), .val (.int (4 : Int32)), .val (.int (1 : Int32)), .val (.int (1 : Int32))] [(.int (3 : Int32)), (.ref a1), (.long (el sl 2))]))
      refine Go.laload C X0 A1 (by decide) (getL (i := 3) hs (by decide)) d4_79 ?_
      show Go p e below s n0 _ _ _ (T0.setTop (mkF m 80 #[.val (.ref a1), .val (.int (5 : Int32)), .val (.int (4 : Int32)), .val (.int (1 : Int32)), .val (.int (1 : Int32))] [(.long (el sl 3)), (.long (el sl 2))]))
      refine Go.st (fun _ => XS.lcmp X0.here C.hx rfl (hb C.hby d4_80) rfl) ?_
      show Go p e below s n0 _ _ _ (T0.setTop (mkF m 81 #[.val (.ref a1), .val (.int (5 : Int32)), .val (.int (4 : Int32)), .val (.int (1 : Int32)), .val (.int (1 : Int32))] [(.int (lcmpW (el sl 2) (el sl 3)))]))
      refine Go.lif_ne C X0 (pc' := 88) d4_81 (by decide) (by decide) (fun hc81_273 => ?_) (fun hc81_273 => ?_)
      · show Go p e below s n0 _ _ _ (T0.setTop (mkF m 88 #[.val (.ref a1), .val (.int (5 : Int32)), .val (.int (4 : Int32)), .val (.int (1 : Int32)), .val (.int (1 : Int32))] []))
        refine Go.st (fun _ => XS.iconst X0.here C.hx rfl (hb C.hby d4_88)) ?_
        show Go p e below s n0 _ _ _ (T0.setTop (mkF m 89 #[.val (.ref a1), .val (.int (5 : Int32)), .val (.int (4 : Int32)), .val (.int (1 : Int32)), .val (.int (1 : Int32))] [(.int (0 : Int32))]))
        refine Go.st (fun _ => XS.istore X0.here C.hx rfl (hb C.hby d4_89) rfl (l' := #[.val (.ref a1), .val (.int (5 : Int32)), .val (.int (4 : Int32)), .val (.int (1 : Int32)), .val (.int (0 : Int32))]) rfl) ?_
        show Go p e below s n0 _ _ _ (T0.setTop (mkF m 91 #[.val (.ref a1), .val (.int (5 : Int32)), .val (.int (4 : Int32)), .val (.int (1 : Int32)), .val (.int (0 : Int32))] []))
        refine Go.st (fun _ => XS.iloadN X0.here C.hx rfl (hb C.hby d4_91) rfl) ?_
        show Go p e below s n0 _ _ _ (T0.setTop (mkF m 92 #[.val (.ref a1), .val (.int (5 : Int32)), .val (.int (4 : Int32)), .val (.int (1 : Int32)), .val (.int (0 : Int32))] [(.int (4 : Int32))]))
        refine Go.st (fun _ => XS.iconst X0.here C.hx rfl (hb C.hby d4_92)) ?_
        show Go p e below s n0 _ _ _ (T0.setTop (mkF m 93 #[.val (.ref a1), .val (.int (5 : Int32)), .val (.int (4 : Int32)), .val (.int (1 : Int32)), .val (.int (0 : Int32))] [(.int (3 : Int32)), (.int (4 : Int32))]))
        refine Go.icmp_le C X0 (pc' := 120) d4_93 (by decide) (by decide) (fun hc => absurd hc (by decide)) (fun _ => ?_)
        show Go p e below s n0 _ _ _ (T0.setTop (mkF m 96 #[.val (.ref a1), .val (.int (5 : Int32)), .val (.int (4 : Int32)), .val (.int (1 : Int32)), .val (.int (0 : Int32))] []))
        refine Go.st (fun _ => XS.iload X0.here C.hx rfl (hb C.hby d4_96) rfl) ?_
        show Go p e below s n0 _ _ _ (T0.setTop (mkF m 98 #[.val (.ref a1), .val (.int (5 : Int32)), .val (.int (4 : Int32)), .val (.int (1 : Int32)), .val (.int (0 : Int32))] [(.int (0 : Int32))]))
        refine Go.if_eq C X0 (pc' := 117) d4_98 (by decide) (by decide) (fun _ => ?_) (fun hc => absurd hc (by decide))
        show Go p e below s n0 _ _ _ (T0.setTop (mkF m 117 #[.val (.ref a1), .val (.int (5 : Int32)), .val (.int (4 : Int32)), .val (.int (1 : Int32)), .val (.int (0 : Int32))] []))
        refine Go.st (fun _ => XS.iconst X0.here C.hx rfl (hb C.hby d4_117)) ?_
        show Go p e below s n0 _ _ _ (T0.setTop (mkF m 118 #[.val (.ref a1), .val (.int (5 : Int32)), .val (.int (4 : Int32)), .val (.int (1 : Int32)), .val (.int (0 : Int32))] [(.int (0 : Int32))]))
        refine Go.st (fun _ => XS.istore X0.here C.hx rfl (hb C.hby d4_118) rfl (l' := #[.val (.ref a1), .val (.int (5 : Int32)), .val (.int (4 : Int32)), .val (.int (1 : Int32)), .val (.int (0 : Int32))]) rfl) ?_
        show Go p e below s n0 _ _ _ (T0.setTop (mkF m 120 #[.val (.ref a1), .val (.int (5 : Int32)), .val (.int (4 : Int32)), .val (.int (1 : Int32)), .val (.int (0 : Int32))] []))
        refine Go.st (fun _ => XS.iloadN X0.here C.hx rfl (hb C.hby d4_120) rfl) ?_
        show Go p e below s n0 _ _ _ (T0.setTop (mkF m 121 #[.val (.ref a1), .val (.int (5 : Int32)), .val (.int (4 : Int32)), .val (.int (1 : Int32)), .val (.int (0 : Int32))] [(.int (4 : Int32))]))
        refine Go.st (fun _ => XS.iconst X0.here C.hx rfl (hb C.hby d4_121)) ?_
        show Go p e below s n0 _ _ _ (T0.setTop (mkF m 122 #[.val (.ref a1), .val (.int (5 : Int32)), .val (.int (4 : Int32)), .val (.int (1 : Int32)), .val (.int (0 : Int32))] [(.int (4 : Int32)), (.int (4 : Int32))]))
        refine Go.icmp_le C X0 (pc' := 149) d4_122 (by decide) (by decide) (fun _ => ?_) (fun hc => absurd hc (by decide))
        show Go p e below s n0 _ _ _ (T0.setTop (mkF m 149 #[.val (.ref a1), .val (.int (5 : Int32)), .val (.int (4 : Int32)), .val (.int (1 : Int32)), .val (.int (0 : Int32))] []))
        refine Go.st (fun _ => XS.iload X0.here C.hx rfl (hb C.hby d4_149) rfl) ?_
        show Go p e below s n0 _ _ _ (T0.setTop (mkF m 151 #[.val (.ref a1), .val (.int (5 : Int32)), .val (.int (4 : Int32)), .val (.int (1 : Int32)), .val (.int (0 : Int32))] [(.int (0 : Int32))]))
        exact Go.retZ C X0 (by decide) d4_151 ⟨by simp [b2i, sameE, Esl, List.range_succ, hc23_255, hc52_265, hc81_273], rfl⟩ (by decide) (by decide)
      · show Go p e below s n0 _ _ _ (T0.setTop (mkF m 84 #[.val (.ref a1), .val (.int (5 : Int32)), .val (.int (4 : Int32)), .val (.int (1 : Int32)), .val (.int (1 : Int32))] []))
        refine Go.st (fun _ => XS.iconst X0.here C.hx rfl (hb C.hby d4_84)) ?_
        show Go p e below s n0 _ _ _ (T0.setTop (mkF m 85 #[.val (.ref a1), .val (.int (5 : Int32)), .val (.int (4 : Int32)), .val (.int (1 : Int32)), .val (.int (1 : Int32))] [(.int (1 : Int32))]))
        refine Go.st (fun _ => XS.goto X0.here C.hx rfl (pc0 := 85) (pc' := 89) rfl (hb C.hby d4_85) (by decide) (by decide)) ?_
        show Go p e below s n0 _ _ _ (T0.setTop (mkF m 89 #[.val (.ref a1), .val (.int (5 : Int32)), .val (.int (4 : Int32)), .val (.int (1 : Int32)), .val (.int (1 : Int32))] [(.int (1 : Int32))]))
        refine Go.st (fun _ => XS.istore X0.here C.hx rfl (hb C.hby d4_89) rfl (l' := #[.val (.ref a1), .val (.int (5 : Int32)), .val (.int (4 : Int32)), .val (.int (1 : Int32)), .val (.int (1 : Int32))]) rfl) ?_
        show Go p e below s n0 _ _ _ (T0.setTop (mkF m 91 #[.val (.ref a1), .val (.int (5 : Int32)), .val (.int (4 : Int32)), .val (.int (1 : Int32)), .val (.int (1 : Int32))] []))
        refine Go.st (fun _ => XS.iloadN X0.here C.hx rfl (hb C.hby d4_91) rfl) ?_
        show Go p e below s n0 _ _ _ (T0.setTop (mkF m 92 #[.val (.ref a1), .val (.int (5 : Int32)), .val (.int (4 : Int32)), .val (.int (1 : Int32)), .val (.int (1 : Int32))] [(.int (4 : Int32))]))
        refine Go.st (fun _ => XS.iconst X0.here C.hx rfl (hb C.hby d4_92)) ?_
        show Go p e below s n0 _ _ _ (T0.setTop (mkF m 93 #[.val (.ref a1), .val (.int (5 : Int32)), .val (.int (4 : Int32)), .val (.int (1 : Int32)), .val (.int (1 : Int32))] [(.int (3 : Int32)), (.int (4 : Int32))]))
        refine Go.icmp_le C X0 (pc' := 120) d4_93 (by decide) (by decide) (fun hc => absurd hc (by decide)) (fun _ => ?_)
        show Go p e below s n0 _ _ _ (T0.setTop (mkF m 96 #[.val (.ref a1), .val (.int (5 : Int32)), .val (.int (4 : Int32)), .val (.int (1 : Int32)), .val (.int (1 : Int32))] []))
        refine Go.st (fun _ => XS.iload X0.here C.hx rfl (hb C.hby d4_96) rfl) ?_
        show Go p e below s n0 _ _ _ (T0.setTop (mkF m 98 #[.val (.ref a1), .val (.int (5 : Int32)), .val (.int (4 : Int32)), .val (.int (1 : Int32)), .val (.int (1 : Int32))] [(.int (1 : Int32))]))
        refine Go.if_eq C X0 (pc' := 117) d4_98 (by decide) (by decide) (fun hc => absurd hc (by decide)) (fun _ => ?_)
        show Go p e below s n0 _ _ _ (T0.setTop (mkF m 101 #[.val (.ref a1), .val (.int (5 : Int32)), .val (.int (4 : Int32)), .val (.int (1 : Int32)), .val (.int (1 : Int32))] []))
        refine Go.st (fun _ => XS.aloadN X0.here C.hx rfl (hb C.hby d4_101) rfl rfl) ?_
        show Go p e below s n0 _ _ _ (T0.setTop (mkF m 102 #[.val (.ref a1), .val (.int (5 : Int32)), .val (.int (4 : Int32)), .val (.int (1 : Int32)), .val (.int (1 : Int32))] [(.ref a1)]))
        refine Go.st (fun _ => XS.iconst X0.here C.hx rfl (hb C.hby d4_102)) ?_
        show Go p e below s n0 _ _ _ (T0.setTop (mkF m 103 #[.val (.ref a1), .val (.int (5 : Int32)), .val (.int (4 : Int32)), .val (.int (1 : Int32)), .val (.int (1 : Int32))] [(.int (3 : Int32)), (.ref a1)]))
        refine Go.laload C X0 A1 (by decide) (getL (i := 3) hs (by decide)) d4_103 ?_
        show Go p e below s n0 _ _ _ (T0.setTop (mkF m 104 #[.val (.ref a1), .val (.int (5 : Int32)), .val (.int (4 : Int32)), .val (.int (1 : Int32)), .val (.int (1 : Int32))] [(.long (el sl 3))]))
        refine Go.st (fun _ => XS.aloadN X0.here C.hx rfl (hb C.hby d4_104) rfl rfl) ?_
        show Go p e below s n0 _ _ _ (T0.setTop (mkF m 105 #[.val (.ref a1), .val (.int (5 : Int32)), .val (.int (4 : Int32)), .val (.int (1 : Int32)), .val (.int (1 : Int32))] [(.ref a1), (.long (el sl 3))]))
        refine Go.st (fun _ => XS.iloadN X0.here C.hx rfl (hb C.hby d4_105) rfl) ?_
        show Go p e below s n0 _ _ _ (T0.setTop (mkF m 106 #[.val (.ref a1), .val (.int (5 : Int32)), .val (.int (4 : Int32)), .val (.int (1 : Int32)), .val (.int (1 : Int32))] [(.int (1 : Int32)), (.ref a1), (.long (el sl 3))]))
        refine Go.st (fun _ => XS.iconst X0.here C.hx rfl (hb C.hby d4_106)) ?_
        show Go p e below s n0 _ _ _ (T0.setTop (mkF m 107 #[.val (.ref a1), .val (.int (5 : Int32)), .val (.int (4 : Int32)), .val (.int (1 : Int32)), .val (.int (1 : Int32))] [(.int (3 : Int32)), (.int (1 : Int32)), (.ref a1), (.long (el sl 3))]))
        refine Go.st (fun _ => XS.iadd X0.here C.hx rfl (hb C.hby d4_107) rfl) ?_
        show Go p e below s n0 _ _ _ (T0.setTop (mkF m 108 #[.val (.ref a1), .val (.int (5 : Int32)), .val (.int (4 : Int32)), .val (.int (1 : Int32)), .val (.int (1 : Int32))] [(.int (4 : Int32)), (.ref a1), (.long (el sl 3))]))
        refine Go.laload C X0 A1 (by decide) (getL (i := 4) hs (by decide)) d4_108 ?_
        show Go p e below s n0 _ _ _ (T0.setTop (mkF m 109 #[.val (.ref a1), .val (.int (5 : Int32)), .val (.int (4 : Int32)), .val (.int (1 : Int32)), .val (.int (1 : Int32))] [(.long (el sl 4)), (.long (el sl 3))]))
        refine Go.st (fun _ => XS.lcmp X0.here C.hx rfl (hb C.hby d4_109) rfl) ?_
        show Go p e below s n0 _ _ _ (T0.setTop (mkF m 110 #[.val (.ref a1), .val (.int (5 : Int32)), .val (.int (4 : Int32)), .val (.int (1 : Int32)), .val (.int (1 : Int32))] [(.int (lcmpW (el sl 3) (el sl 4)))]))
        refine Go.lif_ne C X0 (pc' := 117) d4_110 (by decide) (by decide) (fun hc110_279 => ?_) (fun hc110_279 => ?_)
        · show Go p e below s n0 _ _ _ (T0.setTop (mkF m 117 #[.val (.ref a1), .val (.int (5 : Int32)), .val (.int (4 : Int32)), .val (.int (1 : Int32)), .val (.int (1 : Int32))] []))
          refine Go.st (fun _ => XS.iconst X0.here C.hx rfl (hb C.hby d4_117)) ?_
          show Go p e below s n0 _ _ _ (T0.setTop (mkF m 118 #[.val (.ref a1), .val (.int (5 : Int32)), .val (.int (4 : Int32)), .val (.int (1 : Int32)), .val (.int (1 : Int32))] [(.int (0 : Int32))]))
          refine Go.st (fun _ => XS.istore X0.here C.hx rfl (hb C.hby d4_118) rfl (l' := #[.val (.ref a1), .val (.int (5 : Int32)), .val (.int (4 : Int32)), .val (.int (1 : Int32)), .val (.int (0 : Int32))]) rfl) ?_
          show Go p e below s n0 _ _ _ (T0.setTop (mkF m 120 #[.val (.ref a1), .val (.int (5 : Int32)), .val (.int (4 : Int32)), .val (.int (1 : Int32)), .val (.int (0 : Int32))] []))
          refine Go.st (fun _ => XS.iloadN X0.here C.hx rfl (hb C.hby d4_120) rfl) ?_
          show Go p e below s n0 _ _ _ (T0.setTop (mkF m 121 #[.val (.ref a1), .val (.int (5 : Int32)), .val (.int (4 : Int32)), .val (.int (1 : Int32)), .val (.int (0 : Int32))] [(.int (4 : Int32))]))
          refine Go.st (fun _ => XS.iconst X0.here C.hx rfl (hb C.hby d4_121)) ?_
          show Go p e below s n0 _ _ _ (T0.setTop (mkF m 122 #[.val (.ref a1), .val (.int (5 : Int32)), .val (.int (4 : Int32)), .val (.int (1 : Int32)), .val (.int (0 : Int32))] [(.int (4 : Int32)), (.int (4 : Int32))]))
          refine Go.icmp_le C X0 (pc' := 149) d4_122 (by decide) (by decide) (fun _ => ?_) (fun hc => absurd hc (by decide))
          show Go p e below s n0 _ _ _ (T0.setTop (mkF m 149 #[.val (.ref a1), .val (.int (5 : Int32)), .val (.int (4 : Int32)), .val (.int (1 : Int32)), .val (.int (0 : Int32))] []))
          refine Go.st (fun _ => XS.iload X0.here C.hx rfl (hb C.hby d4_149) rfl) ?_
          show Go p e below s n0 _ _ _ (T0.setTop (mkF m 151 #[.val (.ref a1), .val (.int (5 : Int32)), .val (.int (4 : Int32)), .val (.int (1 : Int32)), .val (.int (0 : Int32))] [(.int (0 : Int32))]))
          exact Go.retZ C X0 (by decide) d4_151 ⟨by simp [b2i, sameE, Esl, List.range_succ, hc23_255, hc52_265, hc81_273, hc110_279], rfl⟩ (by decide) (by decide)
        · show Go p e below s n0 _ _ _ (T0.setTop (mkF m 113 #[.val (.ref a1), .val (.int (5 : Int32)), .val (.int (4 : Int32)), .val (.int (1 : Int32)), .val (.int (1 : Int32))] []))
          refine Go.st (fun _ => XS.iconst X0.here C.hx rfl (hb C.hby d4_113)) ?_
          show Go p e below s n0 _ _ _ (T0.setTop (mkF m 114 #[.val (.ref a1), .val (.int (5 : Int32)), .val (.int (4 : Int32)), .val (.int (1 : Int32)), .val (.int (1 : Int32))] [(.int (1 : Int32))]))
          refine Go.st (fun _ => XS.goto X0.here C.hx rfl (pc0 := 114) (pc' := 118) rfl (hb C.hby d4_114) (by decide) (by decide)) ?_
          show Go p e below s n0 _ _ _ (T0.setTop (mkF m 118 #[.val (.ref a1), .val (.int (5 : Int32)), .val (.int (4 : Int32)), .val (.int (1 : Int32)), .val (.int (1 : Int32))] [(.int (1 : Int32))]))
          refine Go.st (fun _ => XS.istore X0.here C.hx rfl (hb C.hby d4_118) rfl (l' := #[.val (.ref a1), .val (.int (5 : Int32)), .val (.int (4 : Int32)), .val (.int (1 : Int32)), .val (.int (1 : Int32))]) rfl) ?_
          show Go p e below s n0 _ _ _ (T0.setTop (mkF m 120 #[.val (.ref a1), .val (.int (5 : Int32)), .val (.int (4 : Int32)), .val (.int (1 : Int32)), .val (.int (1 : Int32))] []))
          refine Go.st (fun _ => XS.iloadN X0.here C.hx rfl (hb C.hby d4_120) rfl) ?_
          show Go p e below s n0 _ _ _ (T0.setTop (mkF m 121 #[.val (.ref a1), .val (.int (5 : Int32)), .val (.int (4 : Int32)), .val (.int (1 : Int32)), .val (.int (1 : Int32))] [(.int (4 : Int32))]))
          refine Go.st (fun _ => XS.iconst X0.here C.hx rfl (hb C.hby d4_121)) ?_
          show Go p e below s n0 _ _ _ (T0.setTop (mkF m 122 #[.val (.ref a1), .val (.int (5 : Int32)), .val (.int (4 : Int32)), .val (.int (1 : Int32)), .val (.int (1 : Int32))] [(.int (4 : Int32)), (.int (4 : Int32))]))
          refine Go.icmp_le C X0 (pc' := 149) d4_122 (by decide) (by decide) (fun _ => ?_) (fun hc => absurd hc (by decide))
          show Go p e below s n0 _ _ _ (T0.setTop (mkF m 149 #[.val (.ref a1), .val (.int (5 : Int32)), .val (.int (4 : Int32)), .val (.int (1 : Int32)), .val (.int (1 : Int32))] []))
          refine Go.st (fun _ => XS.iload X0.here C.hx rfl (hb C.hby d4_149) rfl) ?_
          show Go p e below s n0 _ _ _ (T0.setTop (mkF m 151 #[.val (.ref a1), .val (.int (5 : Int32)), .val (.int (4 : Int32)), .val (.int (1 : Int32)), .val (.int (1 : Int32))] [(.int (1 : Int32))]))
          exact Go.retZ C X0 (by decide) d4_151 ⟨by simp [b2i, sameE, Esl, List.range_succ, hc23_255, hc52_265, hc81_273, hc110_279], rfl⟩ (by decide) (by decide)
set_option maxRecDepth 65536 in
set_option maxHeartbeats 40000000 in
theorem con_same_6_1 (l : Launch) (Z : State) (a0 : Array Value) (hw : ∀ d ∈ tables_1, d.before a0 Z = true) (n0 : Nat) (h0 : Heap) (Z0 : n0 ≤ h0.size) (a1 : Addr) (sl : List Int64) (hs : sl.length = 6) (A1 : AR Z h0 a1 .long (sl.map Value.long)) :
    Con l Z (⟨"com/example/orderly_ring/orderlyring/model/SequencesExtendBordersPinLaw", "same", "([JII)Z"⟩ : MethodName) method_3_code 5 (some .boolean) [] ({ frames := 0, cells := 0, slots := 0, locals := 0 } : Room) n0 #[(.ref a1), (.int (6 : Int32)), (.int (1 : Int32))] h0 (fun v h => v = some (.int (b2i (sameE (Esl sl) 6 1))) ∧ h = h0) := by
  refine Con.mk pf_4 hw Z0 ?_
  intro p e s m below meth c T0 C X0
  have ef : entryFrame m #[(.ref a1), (.int (6 : Int32)), (.int (1 : Int32))] 5 = mkF m 0 #[.val (.ref a1), .val (.int (6 : Int32)), .val (.int (1 : Int32)), .unset, .unset] [] := by first | (simp [entryFrame, mkF, argsToLocals, Value.category]; done) | rfl
  rw [ef]
  show Go p e below s n0 _ _ _ (T0.setTop (mkF m 0 #[.val (.ref a1), .val (.int (6 : Int32)), .val (.int (1 : Int32)), .unset, .unset] []))
  refine Go.st (fun _ => XS.iloadN X0.here C.hx rfl (hb C.hby d4_0) rfl) ?_
  show Go p e below s n0 _ _ _ (T0.setTop (mkF m 1 #[.val (.ref a1), .val (.int (6 : Int32)), .val (.int (1 : Int32)), .unset, .unset] [(.int (6 : Int32))]))
  refine Go.st (fun _ => XS.iloadN X0.here C.hx rfl (hb C.hby d4_1) rfl) ?_
  show Go p e below s n0 _ _ _ (T0.setTop (mkF m 2 #[.val (.ref a1), .val (.int (6 : Int32)), .val (.int (1 : Int32)), .unset, .unset] [(.int (1 : Int32)), (.int (6 : Int32))]))
  refine Go.st (fun _ => XS.isub X0.here C.hx rfl (hb C.hby d4_2) rfl) ?_
  show Go p e below s n0 _ _ _ (T0.setTop (mkF m 3 #[.val (.ref a1), .val (.int (6 : Int32)), .val (.int (1 : Int32)), .unset, .unset] [(.int (5 : Int32))]))
  refine Go.st (fun _ => XS.istoreN X0.here C.hx rfl (hb C.hby d4_3) rfl (l' := #[.val (.ref a1), .val (.int (6 : Int32)), .val (.int (1 : Int32)), .val (.int (5 : Int32)), .unset]) rfl) ?_
  show Go p e below s n0 _ _ _ (T0.setTop (mkF m 4 #[.val (.ref a1), .val (.int (6 : Int32)), .val (.int (1 : Int32)), .val (.int (5 : Int32)), .unset] []))
  refine Go.st (fun _ => XS.iconst X0.here C.hx rfl (hb C.hby d4_4)) ?_
  show Go p e below s n0 _ _ _ (T0.setTop (mkF m 5 #[.val (.ref a1), .val (.int (6 : Int32)), .val (.int (1 : Int32)), .val (.int (5 : Int32)), .unset] [(.int (1 : Int32))]))
  refine Go.st (fun _ => XS.istore X0.here C.hx rfl (hb C.hby d4_5) rfl (l' := #[.val (.ref a1), .val (.int (6 : Int32)), .val (.int (1 : Int32)), .val (.int (5 : Int32)), .val (.int (1 : Int32))]) rfl) ?_
  show Go p e below s n0 _ _ _ (T0.setTop (mkF m 7 #[.val (.ref a1), .val (.int (6 : Int32)), .val (.int (1 : Int32)), .val (.int (5 : Int32)), .val (.int (1 : Int32))] []))
  refine Go.st (fun _ => XS.iloadN X0.here C.hx rfl (hb C.hby d4_7) rfl) ?_
  show Go p e below s n0 _ _ _ (T0.setTop (mkF m 8 #[.val (.ref a1), .val (.int (6 : Int32)), .val (.int (1 : Int32)), .val (.int (5 : Int32)), .val (.int (1 : Int32))] [(.int (1 : Int32))]))
  refine Go.if_le C X0 (pc' := 33) d4_8 (by decide) (by decide) (fun hc => absurd hc (by decide)) (fun _ => ?_)
  show Go p e below s n0 _ _ _ (T0.setTop (mkF m 11 #[.val (.ref a1), .val (.int (6 : Int32)), .val (.int (1 : Int32)), .val (.int (5 : Int32)), .val (.int (1 : Int32))] []))
  refine Go.st (fun _ => XS.iload X0.here C.hx rfl (hb C.hby d4_11) rfl) ?_
  show Go p e below s n0 _ _ _ (T0.setTop (mkF m 13 #[.val (.ref a1), .val (.int (6 : Int32)), .val (.int (1 : Int32)), .val (.int (5 : Int32)), .val (.int (1 : Int32))] [(.int (1 : Int32))]))
  refine Go.if_eq C X0 (pc' := 30) d4_13 (by decide) (by decide) (fun hc => absurd hc (by decide)) (fun _ => ?_)
  show Go p e below s n0 _ _ _ (T0.setTop (mkF m 16 #[.val (.ref a1), .val (.int (6 : Int32)), .val (.int (1 : Int32)), .val (.int (5 : Int32)), .val (.int (1 : Int32))] []))
  refine Go.st (fun _ => XS.aloadN X0.here C.hx rfl (hb C.hby d4_16) rfl rfl) ?_
  show Go p e below s n0 _ _ _ (T0.setTop (mkF m 17 #[.val (.ref a1), .val (.int (6 : Int32)), .val (.int (1 : Int32)), .val (.int (5 : Int32)), .val (.int (1 : Int32))] [(.ref a1)]))
  refine Go.st (fun _ => XS.iconst X0.here C.hx rfl (hb C.hby d4_17)) ?_
  show Go p e below s n0 _ _ _ (T0.setTop (mkF m 18 #[.val (.ref a1), .val (.int (6 : Int32)), .val (.int (1 : Int32)), .val (.int (5 : Int32)), .val (.int (1 : Int32))] [(.int (0 : Int32)), (.ref a1)]))
  refine Go.laload C X0 A1 (by decide) (getL (i := 0) hs (by decide)) d4_18 ?_
  show Go p e below s n0 _ _ _ (T0.setTop (mkF m 19 #[.val (.ref a1), .val (.int (6 : Int32)), .val (.int (1 : Int32)), .val (.int (5 : Int32)), .val (.int (1 : Int32))] [(.long (el sl 0))]))
  refine Go.st (fun _ => XS.aloadN X0.here C.hx rfl (hb C.hby d4_19) rfl rfl) ?_
  show Go p e below s n0 _ _ _ (T0.setTop (mkF m 20 #[.val (.ref a1), .val (.int (6 : Int32)), .val (.int (1 : Int32)), .val (.int (5 : Int32)), .val (.int (1 : Int32))] [(.ref a1), (.long (el sl 0))]))
  refine Go.st (fun _ => XS.iloadN X0.here C.hx rfl (hb C.hby d4_20) rfl) ?_
  show Go p e below s n0 _ _ _ (T0.setTop (mkF m 21 #[.val (.ref a1), .val (.int (6 : Int32)), .val (.int (1 : Int32)), .val (.int (5 : Int32)), .val (.int (1 : Int32))] [(.int (5 : Int32)), (.ref a1), (.long (el sl 0))]))
  refine Go.laload C X0 A1 (by decide) (getL (i := 5) hs (by decide)) d4_21 ?_
  show Go p e below s n0 _ _ _ (T0.setTop (mkF m 22 #[.val (.ref a1), .val (.int (6 : Int32)), .val (.int (1 : Int32)), .val (.int (5 : Int32)), .val (.int (1 : Int32))] [(.long (el sl 5)), (.long (el sl 0))]))
  refine Go.st (fun _ => XS.lcmp X0.here C.hx rfl (hb C.hby d4_22) rfl) ?_
  show Go p e below s n0 _ _ _ (T0.setTop (mkF m 23 #[.val (.ref a1), .val (.int (6 : Int32)), .val (.int (1 : Int32)), .val (.int (5 : Int32)), .val (.int (1 : Int32))] [(.int (lcmpW (el sl 0) (el sl 5)))]))
  refine Go.lif_ne C X0 (pc' := 30) d4_23 (by decide) (by decide) (fun hc23_284 => ?_) (fun hc23_284 => ?_)
  · show Go p e below s n0 _ _ _ (T0.setTop (mkF m 30 #[.val (.ref a1), .val (.int (6 : Int32)), .val (.int (1 : Int32)), .val (.int (5 : Int32)), .val (.int (1 : Int32))] []))
    refine Go.st (fun _ => XS.iconst X0.here C.hx rfl (hb C.hby d4_30)) ?_
    show Go p e below s n0 _ _ _ (T0.setTop (mkF m 31 #[.val (.ref a1), .val (.int (6 : Int32)), .val (.int (1 : Int32)), .val (.int (5 : Int32)), .val (.int (1 : Int32))] [(.int (0 : Int32))]))
    refine Go.st (fun _ => XS.istore X0.here C.hx rfl (hb C.hby d4_31) rfl (l' := #[.val (.ref a1), .val (.int (6 : Int32)), .val (.int (1 : Int32)), .val (.int (5 : Int32)), .val (.int (0 : Int32))]) rfl) ?_
    show Go p e below s n0 _ _ _ (T0.setTop (mkF m 33 #[.val (.ref a1), .val (.int (6 : Int32)), .val (.int (1 : Int32)), .val (.int (5 : Int32)), .val (.int (0 : Int32))] []))
    refine Go.st (fun _ => XS.iloadN X0.here C.hx rfl (hb C.hby d4_33) rfl) ?_
    show Go p e below s n0 _ _ _ (T0.setTop (mkF m 34 #[.val (.ref a1), .val (.int (6 : Int32)), .val (.int (1 : Int32)), .val (.int (5 : Int32)), .val (.int (0 : Int32))] [(.int (1 : Int32))]))
    refine Go.st (fun _ => XS.iconst X0.here C.hx rfl (hb C.hby d4_34)) ?_
    show Go p e below s n0 _ _ _ (T0.setTop (mkF m 35 #[.val (.ref a1), .val (.int (6 : Int32)), .val (.int (1 : Int32)), .val (.int (5 : Int32)), .val (.int (0 : Int32))] [(.int (1 : Int32)), (.int (1 : Int32))]))
    refine Go.icmp_le C X0 (pc' := 62) d4_35 (by decide) (by decide) (fun _ => ?_) (fun hc => absurd hc (by decide))
    show Go p e below s n0 _ _ _ (T0.setTop (mkF m 62 #[.val (.ref a1), .val (.int (6 : Int32)), .val (.int (1 : Int32)), .val (.int (5 : Int32)), .val (.int (0 : Int32))] []))
    refine Go.st (fun _ => XS.iloadN X0.here C.hx rfl (hb C.hby d4_62) rfl) ?_
    show Go p e below s n0 _ _ _ (T0.setTop (mkF m 63 #[.val (.ref a1), .val (.int (6 : Int32)), .val (.int (1 : Int32)), .val (.int (5 : Int32)), .val (.int (0 : Int32))] [(.int (1 : Int32))]))
    refine Go.st (fun _ => XS.iconst X0.here C.hx rfl (hb C.hby d4_63)) ?_
    show Go p e below s n0 _ _ _ (T0.setTop (mkF m 64 #[.val (.ref a1), .val (.int (6 : Int32)), .val (.int (1 : Int32)), .val (.int (5 : Int32)), .val (.int (0 : Int32))] [(.int (2 : Int32)), (.int (1 : Int32))]))
    refine Go.icmp_le C X0 (pc' := 91) d4_64 (by decide) (by decide) (fun _ => ?_) (fun hc => absurd hc (by decide))
    show Go p e below s n0 _ _ _ (T0.setTop (mkF m 91 #[.val (.ref a1), .val (.int (6 : Int32)), .val (.int (1 : Int32)), .val (.int (5 : Int32)), .val (.int (0 : Int32))] []))
    refine Go.st (fun _ => XS.iloadN X0.here C.hx rfl (hb C.hby d4_91) rfl) ?_
    show Go p e below s n0 _ _ _ (T0.setTop (mkF m 92 #[.val (.ref a1), .val (.int (6 : Int32)), .val (.int (1 : Int32)), .val (.int (5 : Int32)), .val (.int (0 : Int32))] [(.int (1 : Int32))]))
    refine Go.st (fun _ => XS.iconst X0.here C.hx rfl (hb C.hby d4_92)) ?_
    show Go p e below s n0 _ _ _ (T0.setTop (mkF m 93 #[.val (.ref a1), .val (.int (6 : Int32)), .val (.int (1 : Int32)), .val (.int (5 : Int32)), .val (.int (0 : Int32))] [(.int (3 : Int32)), (.int (1 : Int32))]))
    refine Go.icmp_le C X0 (pc' := 120) d4_93 (by decide) (by decide) (fun _ => ?_) (fun hc => absurd hc (by decide))
    show Go p e below s n0 _ _ _ (T0.setTop (mkF m 120 #[.val (.ref a1), .val (.int (6 : Int32)), .val (.int (1 : Int32)), .val (.int (5 : Int32)), .val (.int (0 : Int32))] []))
    refine Go.st (fun _ => XS.iloadN X0.here C.hx rfl (hb C.hby d4_120) rfl) ?_
    show Go p e below s n0 _ _ _ (T0.setTop (mkF m 121 #[.val (.ref a1), .val (.int (6 : Int32)), .val (.int (1 : Int32)), .val (.int (5 : Int32)), .val (.int (0 : Int32))] [(.int (1 : Int32))]))
    refine Go.st (fun _ => XS.iconst X0.here C.hx rfl (hb C.hby d4_121)) ?_
    show Go p e below s n0 _ _ _ (T0.setTop (mkF m 122 #[.val (.ref a1), .val (.int (6 : Int32)), .val (.int (1 : Int32)), .val (.int (5 : Int32)), .val (.int (0 : Int32))] [(.int (4 : Int32)), (.int (1 : Int32))]))
    refine Go.icmp_le C X0 (pc' := 149) d4_122 (by decide) (by decide) (fun _ => ?_) (fun hc => absurd hc (by decide))
    show Go p e below s n0 _ _ _ (T0.setTop (mkF m 149 #[.val (.ref a1), .val (.int (6 : Int32)), .val (.int (1 : Int32)), .val (.int (5 : Int32)), .val (.int (0 : Int32))] []))
    refine Go.st (fun _ => XS.iload X0.here C.hx rfl (hb C.hby d4_149) rfl) ?_
    show Go p e below s n0 _ _ _ (T0.setTop (mkF m 151 #[.val (.ref a1), .val (.int (6 : Int32)), .val (.int (1 : Int32)), .val (.int (5 : Int32)), .val (.int (0 : Int32))] [(.int (0 : Int32))]))
    exact Go.retZ C X0 (by decide) d4_151 ⟨by simp [b2i, sameE, Esl, List.range_succ, hc23_284], rfl⟩ (by decide) (by decide)
  · show Go p e below s n0 _ _ _ (T0.setTop (mkF m 26 #[.val (.ref a1), .val (.int (6 : Int32)), .val (.int (1 : Int32)), .val (.int (5 : Int32)), .val (.int (1 : Int32))] []))
    refine Go.st (fun _ => XS.iconst X0.here C.hx rfl (hb C.hby d4_26)) ?_
    show Go p e below s n0 _ _ _ (T0.setTop (mkF m 27 #[.val (.ref a1), .val (.int (6 : Int32)), .val (.int (1 : Int32)), .val (.int (5 : Int32)), .val (.int (1 : Int32))] [(.int (1 : Int32))]))
    refine Go.st (fun _ => XS.goto X0.here C.hx rfl (pc0 := 27) (pc' := 31) rfl (hb C.hby d4_27) (by decide) (by decide)) ?_
    show Go p e below s n0 _ _ _ (T0.setTop (mkF m 31 #[.val (.ref a1), .val (.int (6 : Int32)), .val (.int (1 : Int32)), .val (.int (5 : Int32)), .val (.int (1 : Int32))] [(.int (1 : Int32))]))
    refine Go.st (fun _ => XS.istore X0.here C.hx rfl (hb C.hby d4_31) rfl (l' := #[.val (.ref a1), .val (.int (6 : Int32)), .val (.int (1 : Int32)), .val (.int (5 : Int32)), .val (.int (1 : Int32))]) rfl) ?_
    show Go p e below s n0 _ _ _ (T0.setTop (mkF m 33 #[.val (.ref a1), .val (.int (6 : Int32)), .val (.int (1 : Int32)), .val (.int (5 : Int32)), .val (.int (1 : Int32))] []))
    refine Go.st (fun _ => XS.iloadN X0.here C.hx rfl (hb C.hby d4_33) rfl) ?_
    show Go p e below s n0 _ _ _ (T0.setTop (mkF m 34 #[.val (.ref a1), .val (.int (6 : Int32)), .val (.int (1 : Int32)), .val (.int (5 : Int32)), .val (.int (1 : Int32))] [(.int (1 : Int32))]))
    refine Go.st (fun _ => XS.iconst X0.here C.hx rfl (hb C.hby d4_34)) ?_
    show Go p e below s n0 _ _ _ (T0.setTop (mkF m 35 #[.val (.ref a1), .val (.int (6 : Int32)), .val (.int (1 : Int32)), .val (.int (5 : Int32)), .val (.int (1 : Int32))] [(.int (1 : Int32)), (.int (1 : Int32))]))
    refine Go.icmp_le C X0 (pc' := 62) d4_35 (by decide) (by decide) (fun _ => ?_) (fun hc => absurd hc (by decide))
    show Go p e below s n0 _ _ _ (T0.setTop (mkF m 62 #[.val (.ref a1), .val (.int (6 : Int32)), .val (.int (1 : Int32)), .val (.int (5 : Int32)), .val (.int (1 : Int32))] []))
    refine Go.st (fun _ => XS.iloadN X0.here C.hx rfl (hb C.hby d4_62) rfl) ?_
    show Go p e below s n0 _ _ _ (T0.setTop (mkF m 63 #[.val (.ref a1), .val (.int (6 : Int32)), .val (.int (1 : Int32)), .val (.int (5 : Int32)), .val (.int (1 : Int32))] [(.int (1 : Int32))]))
    refine Go.st (fun _ => XS.iconst X0.here C.hx rfl (hb C.hby d4_63)) ?_
    show Go p e below s n0 _ _ _ (T0.setTop (mkF m 64 #[.val (.ref a1), .val (.int (6 : Int32)), .val (.int (1 : Int32)), .val (.int (5 : Int32)), .val (.int (1 : Int32))] [(.int (2 : Int32)), (.int (1 : Int32))]))
    refine Go.icmp_le C X0 (pc' := 91) d4_64 (by decide) (by decide) (fun _ => ?_) (fun hc => absurd hc (by decide))
    show Go p e below s n0 _ _ _ (T0.setTop (mkF m 91 #[.val (.ref a1), .val (.int (6 : Int32)), .val (.int (1 : Int32)), .val (.int (5 : Int32)), .val (.int (1 : Int32))] []))
    refine Go.st (fun _ => XS.iloadN X0.here C.hx rfl (hb C.hby d4_91) rfl) ?_
    show Go p e below s n0 _ _ _ (T0.setTop (mkF m 92 #[.val (.ref a1), .val (.int (6 : Int32)), .val (.int (1 : Int32)), .val (.int (5 : Int32)), .val (.int (1 : Int32))] [(.int (1 : Int32))]))
    refine Go.st (fun _ => XS.iconst X0.here C.hx rfl (hb C.hby d4_92)) ?_
    show Go p e below s n0 _ _ _ (T0.setTop (mkF m 93 #[.val (.ref a1), .val (.int (6 : Int32)), .val (.int (1 : Int32)), .val (.int (5 : Int32)), .val (.int (1 : Int32))] [(.int (3 : Int32)), (.int (1 : Int32))]))
    refine Go.icmp_le C X0 (pc' := 120) d4_93 (by decide) (by decide) (fun _ => ?_) (fun hc => absurd hc (by decide))
    show Go p e below s n0 _ _ _ (T0.setTop (mkF m 120 #[.val (.ref a1), .val (.int (6 : Int32)), .val (.int (1 : Int32)), .val (.int (5 : Int32)), .val (.int (1 : Int32))] []))
    refine Go.st (fun _ => XS.iloadN X0.here C.hx rfl (hb C.hby d4_120) rfl) ?_
    show Go p e below s n0 _ _ _ (T0.setTop (mkF m 121 #[.val (.ref a1), .val (.int (6 : Int32)), .val (.int (1 : Int32)), .val (.int (5 : Int32)), .val (.int (1 : Int32))] [(.int (1 : Int32))]))
    refine Go.st (fun _ => XS.iconst X0.here C.hx rfl (hb C.hby d4_121)) ?_
    show Go p e below s n0 _ _ _ (T0.setTop (mkF m 122 #[.val (.ref a1), .val (.int (6 : Int32)), .val (.int (1 : Int32)), .val (.int (5 : Int32)), .val (.int (1 : Int32))] [(.int (4 : Int32)), (.int (1 : Int32))]))
    refine Go.icmp_le C X0 (pc' := 149) d4_122 (by decide) (by decide) (fun _ => ?_) (fun hc => absurd hc (by decide))
    show Go p e below s n0 _ _ _ (T0.setTop (mkF m 149 #[.val (.ref a1), .val (.int (6 : Int32)), .val (.int (1 : Int32)), .val (.int (5 : Int32)), .val (.int (1 : Int32))] []))
    refine Go.st (fun _ => XS.iload X0.here C.hx rfl (hb C.hby d4_149) rfl) ?_
    show Go p e below s n0 _ _ _ (T0.setTop (mkF m 151 #[.val (.ref a1), .val (.int (6 : Int32)), .val (.int (1 : Int32)), .val (.int (5 : Int32)), .val (.int (1 : Int32))] [(.int (1 : Int32))]))
    exact Go.retZ C X0 (by decide) d4_151 ⟨by simp [b2i, sameE, Esl, List.range_succ, hc23_284], rfl⟩ (by decide) (by decide)
set_option maxRecDepth 65536 in
set_option maxHeartbeats 40000000 in
theorem con_same_6_2 (l : Launch) (Z : State) (a0 : Array Value) (hw : ∀ d ∈ tables_1, d.before a0 Z = true) (n0 : Nat) (h0 : Heap) (Z0 : n0 ≤ h0.size) (a1 : Addr) (sl : List Int64) (hs : sl.length = 6) (A1 : AR Z h0 a1 .long (sl.map Value.long)) :
    Con l Z (⟨"com/example/orderly_ring/orderlyring/model/SequencesExtendBordersPinLaw", "same", "([JII)Z"⟩ : MethodName) method_3_code 5 (some .boolean) [] ({ frames := 0, cells := 0, slots := 0, locals := 0 } : Room) n0 #[(.ref a1), (.int (6 : Int32)), (.int (2 : Int32))] h0 (fun v h => v = some (.int (b2i (sameE (Esl sl) 6 2))) ∧ h = h0) := by
  refine Con.mk pf_4 hw Z0 ?_
  intro p e s m below meth c T0 C X0
  have ef : entryFrame m #[(.ref a1), (.int (6 : Int32)), (.int (2 : Int32))] 5 = mkF m 0 #[.val (.ref a1), .val (.int (6 : Int32)), .val (.int (2 : Int32)), .unset, .unset] [] := by first | (simp [entryFrame, mkF, argsToLocals, Value.category]; done) | rfl
  rw [ef]
  show Go p e below s n0 _ _ _ (T0.setTop (mkF m 0 #[.val (.ref a1), .val (.int (6 : Int32)), .val (.int (2 : Int32)), .unset, .unset] []))
  refine Go.st (fun _ => XS.iloadN X0.here C.hx rfl (hb C.hby d4_0) rfl) ?_
  show Go p e below s n0 _ _ _ (T0.setTop (mkF m 1 #[.val (.ref a1), .val (.int (6 : Int32)), .val (.int (2 : Int32)), .unset, .unset] [(.int (6 : Int32))]))
  refine Go.st (fun _ => XS.iloadN X0.here C.hx rfl (hb C.hby d4_1) rfl) ?_
  show Go p e below s n0 _ _ _ (T0.setTop (mkF m 2 #[.val (.ref a1), .val (.int (6 : Int32)), .val (.int (2 : Int32)), .unset, .unset] [(.int (2 : Int32)), (.int (6 : Int32))]))
  refine Go.st (fun _ => XS.isub X0.here C.hx rfl (hb C.hby d4_2) rfl) ?_
  show Go p e below s n0 _ _ _ (T0.setTop (mkF m 3 #[.val (.ref a1), .val (.int (6 : Int32)), .val (.int (2 : Int32)), .unset, .unset] [(.int (4 : Int32))]))
  refine Go.st (fun _ => XS.istoreN X0.here C.hx rfl (hb C.hby d4_3) rfl (l' := #[.val (.ref a1), .val (.int (6 : Int32)), .val (.int (2 : Int32)), .val (.int (4 : Int32)), .unset]) rfl) ?_
  show Go p e below s n0 _ _ _ (T0.setTop (mkF m 4 #[.val (.ref a1), .val (.int (6 : Int32)), .val (.int (2 : Int32)), .val (.int (4 : Int32)), .unset] []))
  refine Go.st (fun _ => XS.iconst X0.here C.hx rfl (hb C.hby d4_4)) ?_
  show Go p e below s n0 _ _ _ (T0.setTop (mkF m 5 #[.val (.ref a1), .val (.int (6 : Int32)), .val (.int (2 : Int32)), .val (.int (4 : Int32)), .unset] [(.int (1 : Int32))]))
  refine Go.st (fun _ => XS.istore X0.here C.hx rfl (hb C.hby d4_5) rfl (l' := #[.val (.ref a1), .val (.int (6 : Int32)), .val (.int (2 : Int32)), .val (.int (4 : Int32)), .val (.int (1 : Int32))]) rfl) ?_
  show Go p e below s n0 _ _ _ (T0.setTop (mkF m 7 #[.val (.ref a1), .val (.int (6 : Int32)), .val (.int (2 : Int32)), .val (.int (4 : Int32)), .val (.int (1 : Int32))] []))
  refine Go.st (fun _ => XS.iloadN X0.here C.hx rfl (hb C.hby d4_7) rfl) ?_
  show Go p e below s n0 _ _ _ (T0.setTop (mkF m 8 #[.val (.ref a1), .val (.int (6 : Int32)), .val (.int (2 : Int32)), .val (.int (4 : Int32)), .val (.int (1 : Int32))] [(.int (2 : Int32))]))
  refine Go.if_le C X0 (pc' := 33) d4_8 (by decide) (by decide) (fun hc => absurd hc (by decide)) (fun _ => ?_)
  show Go p e below s n0 _ _ _ (T0.setTop (mkF m 11 #[.val (.ref a1), .val (.int (6 : Int32)), .val (.int (2 : Int32)), .val (.int (4 : Int32)), .val (.int (1 : Int32))] []))
  refine Go.st (fun _ => XS.iload X0.here C.hx rfl (hb C.hby d4_11) rfl) ?_
  show Go p e below s n0 _ _ _ (T0.setTop (mkF m 13 #[.val (.ref a1), .val (.int (6 : Int32)), .val (.int (2 : Int32)), .val (.int (4 : Int32)), .val (.int (1 : Int32))] [(.int (1 : Int32))]))
  refine Go.if_eq C X0 (pc' := 30) d4_13 (by decide) (by decide) (fun hc => absurd hc (by decide)) (fun _ => ?_)
  show Go p e below s n0 _ _ _ (T0.setTop (mkF m 16 #[.val (.ref a1), .val (.int (6 : Int32)), .val (.int (2 : Int32)), .val (.int (4 : Int32)), .val (.int (1 : Int32))] []))
  refine Go.st (fun _ => XS.aloadN X0.here C.hx rfl (hb C.hby d4_16) rfl rfl) ?_
  show Go p e below s n0 _ _ _ (T0.setTop (mkF m 17 #[.val (.ref a1), .val (.int (6 : Int32)), .val (.int (2 : Int32)), .val (.int (4 : Int32)), .val (.int (1 : Int32))] [(.ref a1)]))
  refine Go.st (fun _ => XS.iconst X0.here C.hx rfl (hb C.hby d4_17)) ?_
  show Go p e below s n0 _ _ _ (T0.setTop (mkF m 18 #[.val (.ref a1), .val (.int (6 : Int32)), .val (.int (2 : Int32)), .val (.int (4 : Int32)), .val (.int (1 : Int32))] [(.int (0 : Int32)), (.ref a1)]))
  refine Go.laload C X0 A1 (by decide) (getL (i := 0) hs (by decide)) d4_18 ?_
  show Go p e below s n0 _ _ _ (T0.setTop (mkF m 19 #[.val (.ref a1), .val (.int (6 : Int32)), .val (.int (2 : Int32)), .val (.int (4 : Int32)), .val (.int (1 : Int32))] [(.long (el sl 0))]))
  refine Go.st (fun _ => XS.aloadN X0.here C.hx rfl (hb C.hby d4_19) rfl rfl) ?_
  show Go p e below s n0 _ _ _ (T0.setTop (mkF m 20 #[.val (.ref a1), .val (.int (6 : Int32)), .val (.int (2 : Int32)), .val (.int (4 : Int32)), .val (.int (1 : Int32))] [(.ref a1), (.long (el sl 0))]))
  refine Go.st (fun _ => XS.iloadN X0.here C.hx rfl (hb C.hby d4_20) rfl) ?_
  show Go p e below s n0 _ _ _ (T0.setTop (mkF m 21 #[.val (.ref a1), .val (.int (6 : Int32)), .val (.int (2 : Int32)), .val (.int (4 : Int32)), .val (.int (1 : Int32))] [(.int (4 : Int32)), (.ref a1), (.long (el sl 0))]))
  refine Go.laload C X0 A1 (by decide) (getL (i := 4) hs (by decide)) d4_21 ?_
  show Go p e below s n0 _ _ _ (T0.setTop (mkF m 22 #[.val (.ref a1), .val (.int (6 : Int32)), .val (.int (2 : Int32)), .val (.int (4 : Int32)), .val (.int (1 : Int32))] [(.long (el sl 4)), (.long (el sl 0))]))
  refine Go.st (fun _ => XS.lcmp X0.here C.hx rfl (hb C.hby d4_22) rfl) ?_
  show Go p e below s n0 _ _ _ (T0.setTop (mkF m 23 #[.val (.ref a1), .val (.int (6 : Int32)), .val (.int (2 : Int32)), .val (.int (4 : Int32)), .val (.int (1 : Int32))] [(.int (lcmpW (el sl 0) (el sl 4)))]))
  refine Go.lif_ne C X0 (pc' := 30) d4_23 (by decide) (by decide) (fun hc23_295 => ?_) (fun hc23_295 => ?_)
  · show Go p e below s n0 _ _ _ (T0.setTop (mkF m 30 #[.val (.ref a1), .val (.int (6 : Int32)), .val (.int (2 : Int32)), .val (.int (4 : Int32)), .val (.int (1 : Int32))] []))
    refine Go.st (fun _ => XS.iconst X0.here C.hx rfl (hb C.hby d4_30)) ?_
    show Go p e below s n0 _ _ _ (T0.setTop (mkF m 31 #[.val (.ref a1), .val (.int (6 : Int32)), .val (.int (2 : Int32)), .val (.int (4 : Int32)), .val (.int (1 : Int32))] [(.int (0 : Int32))]))
    refine Go.st (fun _ => XS.istore X0.here C.hx rfl (hb C.hby d4_31) rfl (l' := #[.val (.ref a1), .val (.int (6 : Int32)), .val (.int (2 : Int32)), .val (.int (4 : Int32)), .val (.int (0 : Int32))]) rfl) ?_
    show Go p e below s n0 _ _ _ (T0.setTop (mkF m 33 #[.val (.ref a1), .val (.int (6 : Int32)), .val (.int (2 : Int32)), .val (.int (4 : Int32)), .val (.int (0 : Int32))] []))
    refine Go.st (fun _ => XS.iloadN X0.here C.hx rfl (hb C.hby d4_33) rfl) ?_
    show Go p e below s n0 _ _ _ (T0.setTop (mkF m 34 #[.val (.ref a1), .val (.int (6 : Int32)), .val (.int (2 : Int32)), .val (.int (4 : Int32)), .val (.int (0 : Int32))] [(.int (2 : Int32))]))
    refine Go.st (fun _ => XS.iconst X0.here C.hx rfl (hb C.hby d4_34)) ?_
    show Go p e below s n0 _ _ _ (T0.setTop (mkF m 35 #[.val (.ref a1), .val (.int (6 : Int32)), .val (.int (2 : Int32)), .val (.int (4 : Int32)), .val (.int (0 : Int32))] [(.int (1 : Int32)), (.int (2 : Int32))]))
    refine Go.icmp_le C X0 (pc' := 62) d4_35 (by decide) (by decide) (fun hc => absurd hc (by decide)) (fun _ => ?_)
    show Go p e below s n0 _ _ _ (T0.setTop (mkF m 38 #[.val (.ref a1), .val (.int (6 : Int32)), .val (.int (2 : Int32)), .val (.int (4 : Int32)), .val (.int (0 : Int32))] []))
    refine Go.st (fun _ => XS.iload X0.here C.hx rfl (hb C.hby d4_38) rfl) ?_
    show Go p e below s n0 _ _ _ (T0.setTop (mkF m 40 #[.val (.ref a1), .val (.int (6 : Int32)), .val (.int (2 : Int32)), .val (.int (4 : Int32)), .val (.int (0 : Int32))] [(.int (0 : Int32))]))
    refine Go.if_eq C X0 (pc' := 59) d4_40 (by decide) (by decide) (fun _ => ?_) (fun hc => absurd hc (by decide))
    show Go p e below s n0 _ _ _ (T0.setTop (mkF m 59 #[.val (.ref a1), .val (.int (6 : Int32)), .val (.int (2 : Int32)), .val (.int (4 : Int32)), .val (.int (0 : Int32))] []))
    refine Go.st (fun _ => XS.iconst X0.here C.hx rfl (hb C.hby d4_59)) ?_
    show Go p e below s n0 _ _ _ (T0.setTop (mkF m 60 #[.val (.ref a1), .val (.int (6 : Int32)), .val (.int (2 : Int32)), .val (.int (4 : Int32)), .val (.int (0 : Int32))] [(.int (0 : Int32))]))
    refine Go.st (fun _ => XS.istore X0.here C.hx rfl (hb C.hby d4_60) rfl (l' := #[.val (.ref a1), .val (.int (6 : Int32)), .val (.int (2 : Int32)), .val (.int (4 : Int32)), .val (.int (0 : Int32))]) rfl) ?_
    show Go p e below s n0 _ _ _ (T0.setTop (mkF m 62 #[.val (.ref a1), .val (.int (6 : Int32)), .val (.int (2 : Int32)), .val (.int (4 : Int32)), .val (.int (0 : Int32))] []))
    refine Go.st (fun _ => XS.iloadN X0.here C.hx rfl (hb C.hby d4_62) rfl) ?_
    show Go p e below s n0 _ _ _ (T0.setTop (mkF m 63 #[.val (.ref a1), .val (.int (6 : Int32)), .val (.int (2 : Int32)), .val (.int (4 : Int32)), .val (.int (0 : Int32))] [(.int (2 : Int32))]))
    refine Go.st (fun _ => XS.iconst X0.here C.hx rfl (hb C.hby d4_63)) ?_
    show Go p e below s n0 _ _ _ (T0.setTop (mkF m 64 #[.val (.ref a1), .val (.int (6 : Int32)), .val (.int (2 : Int32)), .val (.int (4 : Int32)), .val (.int (0 : Int32))] [(.int (2 : Int32)), (.int (2 : Int32))]))
    refine Go.icmp_le C X0 (pc' := 91) d4_64 (by decide) (by decide) (fun _ => ?_) (fun hc => absurd hc (by decide))
    show Go p e below s n0 _ _ _ (T0.setTop (mkF m 91 #[.val (.ref a1), .val (.int (6 : Int32)), .val (.int (2 : Int32)), .val (.int (4 : Int32)), .val (.int (0 : Int32))] []))
    refine Go.st (fun _ => XS.iloadN X0.here C.hx rfl (hb C.hby d4_91) rfl) ?_
    show Go p e below s n0 _ _ _ (T0.setTop (mkF m 92 #[.val (.ref a1), .val (.int (6 : Int32)), .val (.int (2 : Int32)), .val (.int (4 : Int32)), .val (.int (0 : Int32))] [(.int (2 : Int32))]))
    refine Go.st (fun _ => XS.iconst X0.here C.hx rfl (hb C.hby d4_92)) ?_
    show Go p e below s n0 _ _ _ (T0.setTop (mkF m 93 #[.val (.ref a1), .val (.int (6 : Int32)), .val (.int (2 : Int32)), .val (.int (4 : Int32)), .val (.int (0 : Int32))] [(.int (3 : Int32)), (.int (2 : Int32))]))
    refine Go.icmp_le C X0 (pc' := 120) d4_93 (by decide) (by decide) (fun _ => ?_) (fun hc => absurd hc (by decide))
    show Go p e below s n0 _ _ _ (T0.setTop (mkF m 120 #[.val (.ref a1), .val (.int (6 : Int32)), .val (.int (2 : Int32)), .val (.int (4 : Int32)), .val (.int (0 : Int32))] []))
    refine Go.st (fun _ => XS.iloadN X0.here C.hx rfl (hb C.hby d4_120) rfl) ?_
    show Go p e below s n0 _ _ _ (T0.setTop (mkF m 121 #[.val (.ref a1), .val (.int (6 : Int32)), .val (.int (2 : Int32)), .val (.int (4 : Int32)), .val (.int (0 : Int32))] [(.int (2 : Int32))]))
    refine Go.st (fun _ => XS.iconst X0.here C.hx rfl (hb C.hby d4_121)) ?_
    show Go p e below s n0 _ _ _ (T0.setTop (mkF m 122 #[.val (.ref a1), .val (.int (6 : Int32)), .val (.int (2 : Int32)), .val (.int (4 : Int32)), .val (.int (0 : Int32))] [(.int (4 : Int32)), (.int (2 : Int32))]))
    refine Go.icmp_le C X0 (pc' := 149) d4_122 (by decide) (by decide) (fun _ => ?_) (fun hc => absurd hc (by decide))
    show Go p e below s n0 _ _ _ (T0.setTop (mkF m 149 #[.val (.ref a1), .val (.int (6 : Int32)), .val (.int (2 : Int32)), .val (.int (4 : Int32)), .val (.int (0 : Int32))] []))
    refine Go.st (fun _ => XS.iload X0.here C.hx rfl (hb C.hby d4_149) rfl) ?_
    show Go p e below s n0 _ _ _ (T0.setTop (mkF m 151 #[.val (.ref a1), .val (.int (6 : Int32)), .val (.int (2 : Int32)), .val (.int (4 : Int32)), .val (.int (0 : Int32))] [(.int (0 : Int32))]))
    exact Go.retZ C X0 (by decide) d4_151 ⟨by simp [b2i, sameE, Esl, List.range_succ, hc23_295], rfl⟩ (by decide) (by decide)
  · show Go p e below s n0 _ _ _ (T0.setTop (mkF m 26 #[.val (.ref a1), .val (.int (6 : Int32)), .val (.int (2 : Int32)), .val (.int (4 : Int32)), .val (.int (1 : Int32))] []))
    refine Go.st (fun _ => XS.iconst X0.here C.hx rfl (hb C.hby d4_26)) ?_
    show Go p e below s n0 _ _ _ (T0.setTop (mkF m 27 #[.val (.ref a1), .val (.int (6 : Int32)), .val (.int (2 : Int32)), .val (.int (4 : Int32)), .val (.int (1 : Int32))] [(.int (1 : Int32))]))
    refine Go.st (fun _ => XS.goto X0.here C.hx rfl (pc0 := 27) (pc' := 31) rfl (hb C.hby d4_27) (by decide) (by decide)) ?_
    show Go p e below s n0 _ _ _ (T0.setTop (mkF m 31 #[.val (.ref a1), .val (.int (6 : Int32)), .val (.int (2 : Int32)), .val (.int (4 : Int32)), .val (.int (1 : Int32))] [(.int (1 : Int32))]))
    refine Go.st (fun _ => XS.istore X0.here C.hx rfl (hb C.hby d4_31) rfl (l' := #[.val (.ref a1), .val (.int (6 : Int32)), .val (.int (2 : Int32)), .val (.int (4 : Int32)), .val (.int (1 : Int32))]) rfl) ?_
    show Go p e below s n0 _ _ _ (T0.setTop (mkF m 33 #[.val (.ref a1), .val (.int (6 : Int32)), .val (.int (2 : Int32)), .val (.int (4 : Int32)), .val (.int (1 : Int32))] []))
    refine Go.st (fun _ => XS.iloadN X0.here C.hx rfl (hb C.hby d4_33) rfl) ?_
    show Go p e below s n0 _ _ _ (T0.setTop (mkF m 34 #[.val (.ref a1), .val (.int (6 : Int32)), .val (.int (2 : Int32)), .val (.int (4 : Int32)), .val (.int (1 : Int32))] [(.int (2 : Int32))]))
    refine Go.st (fun _ => XS.iconst X0.here C.hx rfl (hb C.hby d4_34)) ?_
    show Go p e below s n0 _ _ _ (T0.setTop (mkF m 35 #[.val (.ref a1), .val (.int (6 : Int32)), .val (.int (2 : Int32)), .val (.int (4 : Int32)), .val (.int (1 : Int32))] [(.int (1 : Int32)), (.int (2 : Int32))]))
    refine Go.icmp_le C X0 (pc' := 62) d4_35 (by decide) (by decide) (fun hc => absurd hc (by decide)) (fun _ => ?_)
    show Go p e below s n0 _ _ _ (T0.setTop (mkF m 38 #[.val (.ref a1), .val (.int (6 : Int32)), .val (.int (2 : Int32)), .val (.int (4 : Int32)), .val (.int (1 : Int32))] []))
    refine Go.st (fun _ => XS.iload X0.here C.hx rfl (hb C.hby d4_38) rfl) ?_
    show Go p e below s n0 _ _ _ (T0.setTop (mkF m 40 #[.val (.ref a1), .val (.int (6 : Int32)), .val (.int (2 : Int32)), .val (.int (4 : Int32)), .val (.int (1 : Int32))] [(.int (1 : Int32))]))
    refine Go.if_eq C X0 (pc' := 59) d4_40 (by decide) (by decide) (fun hc => absurd hc (by decide)) (fun _ => ?_)
    show Go p e below s n0 _ _ _ (T0.setTop (mkF m 43 #[.val (.ref a1), .val (.int (6 : Int32)), .val (.int (2 : Int32)), .val (.int (4 : Int32)), .val (.int (1 : Int32))] []))
    refine Go.st (fun _ => XS.aloadN X0.here C.hx rfl (hb C.hby d4_43) rfl rfl) ?_
    show Go p e below s n0 _ _ _ (T0.setTop (mkF m 44 #[.val (.ref a1), .val (.int (6 : Int32)), .val (.int (2 : Int32)), .val (.int (4 : Int32)), .val (.int (1 : Int32))] [(.ref a1)]))
    refine Go.st (fun _ => XS.iconst X0.here C.hx rfl (hb C.hby d4_44)) ?_
    show Go p e below s n0 _ _ _ (T0.setTop (mkF m 45 #[.val (.ref a1), .val (.int (6 : Int32)), .val (.int (2 : Int32)), .val (.int (4 : Int32)), .val (.int (1 : Int32))] [(.int (1 : Int32)), (.ref a1)]))
    refine Go.laload C X0 A1 (by decide) (getL (i := 1) hs (by decide)) d4_45 ?_
    show Go p e below s n0 _ _ _ (T0.setTop (mkF m 46 #[.val (.ref a1), .val (.int (6 : Int32)), .val (.int (2 : Int32)), .val (.int (4 : Int32)), .val (.int (1 : Int32))] [(.long (el sl 1))]))
    refine Go.st (fun _ => XS.aloadN X0.here C.hx rfl (hb C.hby d4_46) rfl rfl) ?_
    show Go p e below s n0 _ _ _ (T0.setTop (mkF m 47 #[.val (.ref a1), .val (.int (6 : Int32)), .val (.int (2 : Int32)), .val (.int (4 : Int32)), .val (.int (1 : Int32))] [(.ref a1), (.long (el sl 1))]))
    refine Go.st (fun _ => XS.iloadN X0.here C.hx rfl (hb C.hby d4_47) rfl) ?_
    show Go p e below s n0 _ _ _ (T0.setTop (mkF m 48 #[.val (.ref a1), .val (.int (6 : Int32)), .val (.int (2 : Int32)), .val (.int (4 : Int32)), .val (.int (1 : Int32))] [(.int (4 : Int32)), (.ref a1), (.long (el sl 1))]))
    refine Go.st (fun _ => XS.iconst X0.here C.hx rfl (hb C.hby d4_48)) ?_
    show Go p e below s n0 _ _ _ (T0.setTop (mkF m 49 #[.val (.ref a1), .val (.int (6 : Int32)), .val (.int (2 : Int32)), .val (.int (4 : Int32)), .val (.int (1 : Int32))] [(.int (1 : Int32)), (.int (4 : Int32)), (.ref a1), (.long (el sl 1))]))
    refine Go.st (fun _ => XS.iadd X0.here C.hx rfl (hb C.hby d4_49) rfl) ?_
    show Go p e below s n0 _ _ _ (T0.setTop (mkF m 50 #[.val (.ref a1), .val (.int (6 : Int32)), .val (.int (2 : Int32)), .val (.int (4 : Int32)), .val (.int (1 : Int32))] [(.int (5 : Int32)), (.ref a1), (.long (el sl 1))]))
    refine Go.laload C X0 A1 (by decide) (getL (i := 5) hs (by decide)) d4_50 ?_
    show Go p e below s n0 _ _ _ (T0.setTop (mkF m 51 #[.val (.ref a1), .val (.int (6 : Int32)), .val (.int (2 : Int32)), .val (.int (4 : Int32)), .val (.int (1 : Int32))] [(.long (el sl 5)), (.long (el sl 1))]))
    refine Go.st (fun _ => XS.lcmp X0.here C.hx rfl (hb C.hby d4_51) rfl) ?_
    show Go p e below s n0 _ _ _ (T0.setTop (mkF m 52 #[.val (.ref a1), .val (.int (6 : Int32)), .val (.int (2 : Int32)), .val (.int (4 : Int32)), .val (.int (1 : Int32))] [(.int (lcmpW (el sl 1) (el sl 5)))]))
    refine Go.lif_ne C X0 (pc' := 59) d4_52 (by decide) (by decide) (fun hc52_303 => ?_) (fun hc52_303 => ?_)
    · show Go p e below s n0 _ _ _ (T0.setTop (mkF m 59 #[.val (.ref a1), .val (.int (6 : Int32)), .val (.int (2 : Int32)), .val (.int (4 : Int32)), .val (.int (1 : Int32))] []))
      refine Go.st (fun _ => XS.iconst X0.here C.hx rfl (hb C.hby d4_59)) ?_
      show Go p e below s n0 _ _ _ (T0.setTop (mkF m 60 #[.val (.ref a1), .val (.int (6 : Int32)), .val (.int (2 : Int32)), .val (.int (4 : Int32)), .val (.int (1 : Int32))] [(.int (0 : Int32))]))
      refine Go.st (fun _ => XS.istore X0.here C.hx rfl (hb C.hby d4_60) rfl (l' := #[.val (.ref a1), .val (.int (6 : Int32)), .val (.int (2 : Int32)), .val (.int (4 : Int32)), .val (.int (0 : Int32))]) rfl) ?_
      show Go p e below s n0 _ _ _ (T0.setTop (mkF m 62 #[.val (.ref a1), .val (.int (6 : Int32)), .val (.int (2 : Int32)), .val (.int (4 : Int32)), .val (.int (0 : Int32))] []))
      refine Go.st (fun _ => XS.iloadN X0.here C.hx rfl (hb C.hby d4_62) rfl) ?_
      show Go p e below s n0 _ _ _ (T0.setTop (mkF m 63 #[.val (.ref a1), .val (.int (6 : Int32)), .val (.int (2 : Int32)), .val (.int (4 : Int32)), .val (.int (0 : Int32))] [(.int (2 : Int32))]))
      refine Go.st (fun _ => XS.iconst X0.here C.hx rfl (hb C.hby d4_63)) ?_
      show Go p e below s n0 _ _ _ (T0.setTop (mkF m 64 #[.val (.ref a1), .val (.int (6 : Int32)), .val (.int (2 : Int32)), .val (.int (4 : Int32)), .val (.int (0 : Int32))] [(.int (2 : Int32)), (.int (2 : Int32))]))
      refine Go.icmp_le C X0 (pc' := 91) d4_64 (by decide) (by decide) (fun _ => ?_) (fun hc => absurd hc (by decide))
      show Go p e below s n0 _ _ _ (T0.setTop (mkF m 91 #[.val (.ref a1), .val (.int (6 : Int32)), .val (.int (2 : Int32)), .val (.int (4 : Int32)), .val (.int (0 : Int32))] []))
      refine Go.st (fun _ => XS.iloadN X0.here C.hx rfl (hb C.hby d4_91) rfl) ?_
      show Go p e below s n0 _ _ _ (T0.setTop (mkF m 92 #[.val (.ref a1), .val (.int (6 : Int32)), .val (.int (2 : Int32)), .val (.int (4 : Int32)), .val (.int (0 : Int32))] [(.int (2 : Int32))]))
      refine Go.st (fun _ => XS.iconst X0.here C.hx rfl (hb C.hby d4_92)) ?_
      show Go p e below s n0 _ _ _ (T0.setTop (mkF m 93 #[.val (.ref a1), .val (.int (6 : Int32)), .val (.int (2 : Int32)), .val (.int (4 : Int32)), .val (.int (0 : Int32))] [(.int (3 : Int32)), (.int (2 : Int32))]))
      refine Go.icmp_le C X0 (pc' := 120) d4_93 (by decide) (by decide) (fun _ => ?_) (fun hc => absurd hc (by decide))
      show Go p e below s n0 _ _ _ (T0.setTop (mkF m 120 #[.val (.ref a1), .val (.int (6 : Int32)), .val (.int (2 : Int32)), .val (.int (4 : Int32)), .val (.int (0 : Int32))] []))
      refine Go.st (fun _ => XS.iloadN X0.here C.hx rfl (hb C.hby d4_120) rfl) ?_
      show Go p e below s n0 _ _ _ (T0.setTop (mkF m 121 #[.val (.ref a1), .val (.int (6 : Int32)), .val (.int (2 : Int32)), .val (.int (4 : Int32)), .val (.int (0 : Int32))] [(.int (2 : Int32))]))
      refine Go.st (fun _ => XS.iconst X0.here C.hx rfl (hb C.hby d4_121)) ?_
      show Go p e below s n0 _ _ _ (T0.setTop (mkF m 122 #[.val (.ref a1), .val (.int (6 : Int32)), .val (.int (2 : Int32)), .val (.int (4 : Int32)), .val (.int (0 : Int32))] [(.int (4 : Int32)), (.int (2 : Int32))]))
      refine Go.icmp_le C X0 (pc' := 149) d4_122 (by decide) (by decide) (fun _ => ?_) (fun hc => absurd hc (by decide))
      show Go p e below s n0 _ _ _ (T0.setTop (mkF m 149 #[.val (.ref a1), .val (.int (6 : Int32)), .val (.int (2 : Int32)), .val (.int (4 : Int32)), .val (.int (0 : Int32))] []))
      refine Go.st (fun _ => XS.iload X0.here C.hx rfl (hb C.hby d4_149) rfl) ?_
      show Go p e below s n0 _ _ _ (T0.setTop (mkF m 151 #[.val (.ref a1), .val (.int (6 : Int32)), .val (.int (2 : Int32)), .val (.int (4 : Int32)), .val (.int (0 : Int32))] [(.int (0 : Int32))]))
      exact Go.retZ C X0 (by decide) d4_151 ⟨by simp [b2i, sameE, Esl, List.range_succ, hc23_295, hc52_303], rfl⟩ (by decide) (by decide)
    · show Go p e below s n0 _ _ _ (T0.setTop (mkF m 55 #[.val (.ref a1), .val (.int (6 : Int32)), .val (.int (2 : Int32)), .val (.int (4 : Int32)), .val (.int (1 : Int32))] []))
      refine Go.st (fun _ => XS.iconst X0.here C.hx rfl (hb C.hby d4_55)) ?_
      show Go p e below s n0 _ _ _ (T0.setTop (mkF m 56 #[.val (.ref a1), .val (.int (6 : Int32)), .val (.int (2 : Int32)), .val (.int (4 : Int32)), .val (.int (1 : Int32))] [(.int (1 : Int32))]))
      refine Go.st (fun _ => XS.goto X0.here C.hx rfl (pc0 := 56) (pc' := 60) rfl (hb C.hby d4_56) (by decide) (by decide)) ?_
      show Go p e below s n0 _ _ _ (T0.setTop (mkF m 60 #[.val (.ref a1), .val (.int (6 : Int32)), .val (.int (2 : Int32)), .val (.int (4 : Int32)), .val (.int (1 : Int32))] [(.int (1 : Int32))]))
      refine Go.st (fun _ => XS.istore X0.here C.hx rfl (hb C.hby d4_60) rfl (l' := #[.val (.ref a1), .val (.int (6 : Int32)), .val (.int (2 : Int32)), .val (.int (4 : Int32)), .val (.int (1 : Int32))]) rfl) ?_
      show Go p e below s n0 _ _ _ (T0.setTop (mkF m 62 #[.val (.ref a1), .val (.int (6 : Int32)), .val (.int (2 : Int32)), .val (.int (4 : Int32)), .val (.int (1 : Int32))] []))
      refine Go.st (fun _ => XS.iloadN X0.here C.hx rfl (hb C.hby d4_62) rfl) ?_
      show Go p e below s n0 _ _ _ (T0.setTop (mkF m 63 #[.val (.ref a1), .val (.int (6 : Int32)), .val (.int (2 : Int32)), .val (.int (4 : Int32)), .val (.int (1 : Int32))] [(.int (2 : Int32))]))
      refine Go.st (fun _ => XS.iconst X0.here C.hx rfl (hb C.hby d4_63)) ?_
      show Go p e below s n0 _ _ _ (T0.setTop (mkF m 64 #[.val (.ref a1), .val (.int (6 : Int32)), .val (.int (2 : Int32)), .val (.int (4 : Int32)), .val (.int (1 : Int32))] [(.int (2 : Int32)), (.int (2 : Int32))]))
      refine Go.icmp_le C X0 (pc' := 91) d4_64 (by decide) (by decide) (fun _ => ?_) (fun hc => absurd hc (by decide))
      show Go p e below s n0 _ _ _ (T0.setTop (mkF m 91 #[.val (.ref a1), .val (.int (6 : Int32)), .val (.int (2 : Int32)), .val (.int (4 : Int32)), .val (.int (1 : Int32))] []))
      refine Go.st (fun _ => XS.iloadN X0.here C.hx rfl (hb C.hby d4_91) rfl) ?_
      show Go p e below s n0 _ _ _ (T0.setTop (mkF m 92 #[.val (.ref a1), .val (.int (6 : Int32)), .val (.int (2 : Int32)), .val (.int (4 : Int32)), .val (.int (1 : Int32))] [(.int (2 : Int32))]))
      refine Go.st (fun _ => XS.iconst X0.here C.hx rfl (hb C.hby d4_92)) ?_
      show Go p e below s n0 _ _ _ (T0.setTop (mkF m 93 #[.val (.ref a1), .val (.int (6 : Int32)), .val (.int (2 : Int32)), .val (.int (4 : Int32)), .val (.int (1 : Int32))] [(.int (3 : Int32)), (.int (2 : Int32))]))
      refine Go.icmp_le C X0 (pc' := 120) d4_93 (by decide) (by decide) (fun _ => ?_) (fun hc => absurd hc (by decide))
      show Go p e below s n0 _ _ _ (T0.setTop (mkF m 120 #[.val (.ref a1), .val (.int (6 : Int32)), .val (.int (2 : Int32)), .val (.int (4 : Int32)), .val (.int (1 : Int32))] []))
      refine Go.st (fun _ => XS.iloadN X0.here C.hx rfl (hb C.hby d4_120) rfl) ?_
      show Go p e below s n0 _ _ _ (T0.setTop (mkF m 121 #[.val (.ref a1), .val (.int (6 : Int32)), .val (.int (2 : Int32)), .val (.int (4 : Int32)), .val (.int (1 : Int32))] [(.int (2 : Int32))]))
      refine Go.st (fun _ => XS.iconst X0.here C.hx rfl (hb C.hby d4_121)) ?_
      show Go p e below s n0 _ _ _ (T0.setTop (mkF m 122 #[.val (.ref a1), .val (.int (6 : Int32)), .val (.int (2 : Int32)), .val (.int (4 : Int32)), .val (.int (1 : Int32))] [(.int (4 : Int32)), (.int (2 : Int32))]))
      refine Go.icmp_le C X0 (pc' := 149) d4_122 (by decide) (by decide) (fun _ => ?_) (fun hc => absurd hc (by decide))
      show Go p e below s n0 _ _ _ (T0.setTop (mkF m 149 #[.val (.ref a1), .val (.int (6 : Int32)), .val (.int (2 : Int32)), .val (.int (4 : Int32)), .val (.int (1 : Int32))] []))
      refine Go.st (fun _ => XS.iload X0.here C.hx rfl (hb C.hby d4_149) rfl) ?_
      show Go p e below s n0 _ _ _ (T0.setTop (mkF m 151 #[.val (.ref a1), .val (.int (6 : Int32)), .val (.int (2 : Int32)), .val (.int (4 : Int32)), .val (.int (1 : Int32))] [(.int (1 : Int32))]))
      exact Go.retZ C X0 (by decide) d4_151 ⟨by simp [b2i, sameE, Esl, List.range_succ, hc23_295, hc52_303], rfl⟩ (by decide) (by decide)
set_option maxRecDepth 65536 in
set_option maxHeartbeats 40000000 in
theorem con_same_6_3 (l : Launch) (Z : State) (a0 : Array Value) (hw : ∀ d ∈ tables_1, d.before a0 Z = true) (n0 : Nat) (h0 : Heap) (Z0 : n0 ≤ h0.size) (a1 : Addr) (sl : List Int64) (hs : sl.length = 6) (A1 : AR Z h0 a1 .long (sl.map Value.long)) :
    Con l Z (⟨"com/example/orderly_ring/orderlyring/model/SequencesExtendBordersPinLaw", "same", "([JII)Z"⟩ : MethodName) method_3_code 5 (some .boolean) [] ({ frames := 0, cells := 0, slots := 0, locals := 0 } : Room) n0 #[(.ref a1), (.int (6 : Int32)), (.int (3 : Int32))] h0 (fun v h => v = some (.int (b2i (sameE (Esl sl) 6 3))) ∧ h = h0) := by
  refine Con.mk pf_4 hw Z0 ?_
  intro p e s m below meth c T0 C X0
  have ef : entryFrame m #[(.ref a1), (.int (6 : Int32)), (.int (3 : Int32))] 5 = mkF m 0 #[.val (.ref a1), .val (.int (6 : Int32)), .val (.int (3 : Int32)), .unset, .unset] [] := by first | (simp [entryFrame, mkF, argsToLocals, Value.category]; done) | rfl
  rw [ef]
  show Go p e below s n0 _ _ _ (T0.setTop (mkF m 0 #[.val (.ref a1), .val (.int (6 : Int32)), .val (.int (3 : Int32)), .unset, .unset] []))
  refine Go.st (fun _ => XS.iloadN X0.here C.hx rfl (hb C.hby d4_0) rfl) ?_
  show Go p e below s n0 _ _ _ (T0.setTop (mkF m 1 #[.val (.ref a1), .val (.int (6 : Int32)), .val (.int (3 : Int32)), .unset, .unset] [(.int (6 : Int32))]))
  refine Go.st (fun _ => XS.iloadN X0.here C.hx rfl (hb C.hby d4_1) rfl) ?_
  show Go p e below s n0 _ _ _ (T0.setTop (mkF m 2 #[.val (.ref a1), .val (.int (6 : Int32)), .val (.int (3 : Int32)), .unset, .unset] [(.int (3 : Int32)), (.int (6 : Int32))]))
  refine Go.st (fun _ => XS.isub X0.here C.hx rfl (hb C.hby d4_2) rfl) ?_
  show Go p e below s n0 _ _ _ (T0.setTop (mkF m 3 #[.val (.ref a1), .val (.int (6 : Int32)), .val (.int (3 : Int32)), .unset, .unset] [(.int (3 : Int32))]))
  refine Go.st (fun _ => XS.istoreN X0.here C.hx rfl (hb C.hby d4_3) rfl (l' := #[.val (.ref a1), .val (.int (6 : Int32)), .val (.int (3 : Int32)), .val (.int (3 : Int32)), .unset]) rfl) ?_
  show Go p e below s n0 _ _ _ (T0.setTop (mkF m 4 #[.val (.ref a1), .val (.int (6 : Int32)), .val (.int (3 : Int32)), .val (.int (3 : Int32)), .unset] []))
  refine Go.st (fun _ => XS.iconst X0.here C.hx rfl (hb C.hby d4_4)) ?_
  show Go p e below s n0 _ _ _ (T0.setTop (mkF m 5 #[.val (.ref a1), .val (.int (6 : Int32)), .val (.int (3 : Int32)), .val (.int (3 : Int32)), .unset] [(.int (1 : Int32))]))
  refine Go.st (fun _ => XS.istore X0.here C.hx rfl (hb C.hby d4_5) rfl (l' := #[.val (.ref a1), .val (.int (6 : Int32)), .val (.int (3 : Int32)), .val (.int (3 : Int32)), .val (.int (1 : Int32))]) rfl) ?_
  show Go p e below s n0 _ _ _ (T0.setTop (mkF m 7 #[.val (.ref a1), .val (.int (6 : Int32)), .val (.int (3 : Int32)), .val (.int (3 : Int32)), .val (.int (1 : Int32))] []))
  refine Go.st (fun _ => XS.iloadN X0.here C.hx rfl (hb C.hby d4_7) rfl) ?_
  show Go p e below s n0 _ _ _ (T0.setTop (mkF m 8 #[.val (.ref a1), .val (.int (6 : Int32)), .val (.int (3 : Int32)), .val (.int (3 : Int32)), .val (.int (1 : Int32))] [(.int (3 : Int32))]))
  refine Go.if_le C X0 (pc' := 33) d4_8 (by decide) (by decide) (fun hc => absurd hc (by decide)) (fun _ => ?_)
  show Go p e below s n0 _ _ _ (T0.setTop (mkF m 11 #[.val (.ref a1), .val (.int (6 : Int32)), .val (.int (3 : Int32)), .val (.int (3 : Int32)), .val (.int (1 : Int32))] []))
  refine Go.st (fun _ => XS.iload X0.here C.hx rfl (hb C.hby d4_11) rfl) ?_
  show Go p e below s n0 _ _ _ (T0.setTop (mkF m 13 #[.val (.ref a1), .val (.int (6 : Int32)), .val (.int (3 : Int32)), .val (.int (3 : Int32)), .val (.int (1 : Int32))] [(.int (1 : Int32))]))
  refine Go.if_eq C X0 (pc' := 30) d4_13 (by decide) (by decide) (fun hc => absurd hc (by decide)) (fun _ => ?_)
  show Go p e below s n0 _ _ _ (T0.setTop (mkF m 16 #[.val (.ref a1), .val (.int (6 : Int32)), .val (.int (3 : Int32)), .val (.int (3 : Int32)), .val (.int (1 : Int32))] []))
  refine Go.st (fun _ => XS.aloadN X0.here C.hx rfl (hb C.hby d4_16) rfl rfl) ?_
  show Go p e below s n0 _ _ _ (T0.setTop (mkF m 17 #[.val (.ref a1), .val (.int (6 : Int32)), .val (.int (3 : Int32)), .val (.int (3 : Int32)), .val (.int (1 : Int32))] [(.ref a1)]))
  refine Go.st (fun _ => XS.iconst X0.here C.hx rfl (hb C.hby d4_17)) ?_
  show Go p e below s n0 _ _ _ (T0.setTop (mkF m 18 #[.val (.ref a1), .val (.int (6 : Int32)), .val (.int (3 : Int32)), .val (.int (3 : Int32)), .val (.int (1 : Int32))] [(.int (0 : Int32)), (.ref a1)]))
  refine Go.laload C X0 A1 (by decide) (getL (i := 0) hs (by decide)) d4_18 ?_
  show Go p e below s n0 _ _ _ (T0.setTop (mkF m 19 #[.val (.ref a1), .val (.int (6 : Int32)), .val (.int (3 : Int32)), .val (.int (3 : Int32)), .val (.int (1 : Int32))] [(.long (el sl 0))]))
  refine Go.st (fun _ => XS.aloadN X0.here C.hx rfl (hb C.hby d4_19) rfl rfl) ?_
  show Go p e below s n0 _ _ _ (T0.setTop (mkF m 20 #[.val (.ref a1), .val (.int (6 : Int32)), .val (.int (3 : Int32)), .val (.int (3 : Int32)), .val (.int (1 : Int32))] [(.ref a1), (.long (el sl 0))]))
  refine Go.st (fun _ => XS.iloadN X0.here C.hx rfl (hb C.hby d4_20) rfl) ?_
  show Go p e below s n0 _ _ _ (T0.setTop (mkF m 21 #[.val (.ref a1), .val (.int (6 : Int32)), .val (.int (3 : Int32)), .val (.int (3 : Int32)), .val (.int (1 : Int32))] [(.int (3 : Int32)), (.ref a1), (.long (el sl 0))]))
  refine Go.laload C X0 A1 (by decide) (getL (i := 3) hs (by decide)) d4_21 ?_
  show Go p e below s n0 _ _ _ (T0.setTop (mkF m 22 #[.val (.ref a1), .val (.int (6 : Int32)), .val (.int (3 : Int32)), .val (.int (3 : Int32)), .val (.int (1 : Int32))] [(.long (el sl 3)), (.long (el sl 0))]))
  refine Go.st (fun _ => XS.lcmp X0.here C.hx rfl (hb C.hby d4_22) rfl) ?_
  show Go p e below s n0 _ _ _ (T0.setTop (mkF m 23 #[.val (.ref a1), .val (.int (6 : Int32)), .val (.int (3 : Int32)), .val (.int (3 : Int32)), .val (.int (1 : Int32))] [(.int (lcmpW (el sl 0) (el sl 3)))]))
  refine Go.lif_ne C X0 (pc' := 30) d4_23 (by decide) (by decide) (fun hc23_312 => ?_) (fun hc23_312 => ?_)
  · show Go p e below s n0 _ _ _ (T0.setTop (mkF m 30 #[.val (.ref a1), .val (.int (6 : Int32)), .val (.int (3 : Int32)), .val (.int (3 : Int32)), .val (.int (1 : Int32))] []))
    refine Go.st (fun _ => XS.iconst X0.here C.hx rfl (hb C.hby d4_30)) ?_
    show Go p e below s n0 _ _ _ (T0.setTop (mkF m 31 #[.val (.ref a1), .val (.int (6 : Int32)), .val (.int (3 : Int32)), .val (.int (3 : Int32)), .val (.int (1 : Int32))] [(.int (0 : Int32))]))
    refine Go.st (fun _ => XS.istore X0.here C.hx rfl (hb C.hby d4_31) rfl (l' := #[.val (.ref a1), .val (.int (6 : Int32)), .val (.int (3 : Int32)), .val (.int (3 : Int32)), .val (.int (0 : Int32))]) rfl) ?_
    show Go p e below s n0 _ _ _ (T0.setTop (mkF m 33 #[.val (.ref a1), .val (.int (6 : Int32)), .val (.int (3 : Int32)), .val (.int (3 : Int32)), .val (.int (0 : Int32))] []))
    refine Go.st (fun _ => XS.iloadN X0.here C.hx rfl (hb C.hby d4_33) rfl) ?_
    show Go p e below s n0 _ _ _ (T0.setTop (mkF m 34 #[.val (.ref a1), .val (.int (6 : Int32)), .val (.int (3 : Int32)), .val (.int (3 : Int32)), .val (.int (0 : Int32))] [(.int (3 : Int32))]))
    refine Go.st (fun _ => XS.iconst X0.here C.hx rfl (hb C.hby d4_34)) ?_
    show Go p e below s n0 _ _ _ (T0.setTop (mkF m 35 #[.val (.ref a1), .val (.int (6 : Int32)), .val (.int (3 : Int32)), .val (.int (3 : Int32)), .val (.int (0 : Int32))] [(.int (1 : Int32)), (.int (3 : Int32))]))
    refine Go.icmp_le C X0 (pc' := 62) d4_35 (by decide) (by decide) (fun hc => absurd hc (by decide)) (fun _ => ?_)
    show Go p e below s n0 _ _ _ (T0.setTop (mkF m 38 #[.val (.ref a1), .val (.int (6 : Int32)), .val (.int (3 : Int32)), .val (.int (3 : Int32)), .val (.int (0 : Int32))] []))
    refine Go.st (fun _ => XS.iload X0.here C.hx rfl (hb C.hby d4_38) rfl) ?_
    show Go p e below s n0 _ _ _ (T0.setTop (mkF m 40 #[.val (.ref a1), .val (.int (6 : Int32)), .val (.int (3 : Int32)), .val (.int (3 : Int32)), .val (.int (0 : Int32))] [(.int (0 : Int32))]))
    refine Go.if_eq C X0 (pc' := 59) d4_40 (by decide) (by decide) (fun _ => ?_) (fun hc => absurd hc (by decide))
    show Go p e below s n0 _ _ _ (T0.setTop (mkF m 59 #[.val (.ref a1), .val (.int (6 : Int32)), .val (.int (3 : Int32)), .val (.int (3 : Int32)), .val (.int (0 : Int32))] []))
    refine Go.st (fun _ => XS.iconst X0.here C.hx rfl (hb C.hby d4_59)) ?_
    show Go p e below s n0 _ _ _ (T0.setTop (mkF m 60 #[.val (.ref a1), .val (.int (6 : Int32)), .val (.int (3 : Int32)), .val (.int (3 : Int32)), .val (.int (0 : Int32))] [(.int (0 : Int32))]))
    refine Go.st (fun _ => XS.istore X0.here C.hx rfl (hb C.hby d4_60) rfl (l' := #[.val (.ref a1), .val (.int (6 : Int32)), .val (.int (3 : Int32)), .val (.int (3 : Int32)), .val (.int (0 : Int32))]) rfl) ?_
    show Go p e below s n0 _ _ _ (T0.setTop (mkF m 62 #[.val (.ref a1), .val (.int (6 : Int32)), .val (.int (3 : Int32)), .val (.int (3 : Int32)), .val (.int (0 : Int32))] []))
    refine Go.st (fun _ => XS.iloadN X0.here C.hx rfl (hb C.hby d4_62) rfl) ?_
    show Go p e below s n0 _ _ _ (T0.setTop (mkF m 63 #[.val (.ref a1), .val (.int (6 : Int32)), .val (.int (3 : Int32)), .val (.int (3 : Int32)), .val (.int (0 : Int32))] [(.int (3 : Int32))]))
    refine Go.st (fun _ => XS.iconst X0.here C.hx rfl (hb C.hby d4_63)) ?_
    show Go p e below s n0 _ _ _ (T0.setTop (mkF m 64 #[.val (.ref a1), .val (.int (6 : Int32)), .val (.int (3 : Int32)), .val (.int (3 : Int32)), .val (.int (0 : Int32))] [(.int (2 : Int32)), (.int (3 : Int32))]))
    refine Go.icmp_le C X0 (pc' := 91) d4_64 (by decide) (by decide) (fun hc => absurd hc (by decide)) (fun _ => ?_)
    show Go p e below s n0 _ _ _ (T0.setTop (mkF m 67 #[.val (.ref a1), .val (.int (6 : Int32)), .val (.int (3 : Int32)), .val (.int (3 : Int32)), .val (.int (0 : Int32))] []))
    refine Go.st (fun _ => XS.iload X0.here C.hx rfl (hb C.hby d4_67) rfl) ?_
    show Go p e below s n0 _ _ _ (T0.setTop (mkF m 69 #[.val (.ref a1), .val (.int (6 : Int32)), .val (.int (3 : Int32)), .val (.int (3 : Int32)), .val (.int (0 : Int32))] [(.int (0 : Int32))]))
    refine Go.if_eq C X0 (pc' := 88) d4_69 (by decide) (by decide) (fun _ => ?_) (fun hc => absurd hc (by decide))
    show Go p e below s n0 _ _ _ (T0.setTop (mkF m 88 #[.val (.ref a1), .val (.int (6 : Int32)), .val (.int (3 : Int32)), .val (.int (3 : Int32)), .val (.int (0 : Int32))] []))
    refine Go.st (fun _ => XS.iconst X0.here C.hx rfl (hb C.hby d4_88)) ?_
    show Go p e below s n0 _ _ _ (T0.setTop (mkF m 89 #[.val (.ref a1), .val (.int (6 : Int32)), .val (.int (3 : Int32)), .val (.int (3 : Int32)), .val (.int (0 : Int32))] [(.int (0 : Int32))]))
    refine Go.st (fun _ => XS.istore X0.here C.hx rfl (hb C.hby d4_89) rfl (l' := #[.val (.ref a1), .val (.int (6 : Int32)), .val (.int (3 : Int32)), .val (.int (3 : Int32)), .val (.int (0 : Int32))]) rfl) ?_
    show Go p e below s n0 _ _ _ (T0.setTop (mkF m 91 #[.val (.ref a1), .val (.int (6 : Int32)), .val (.int (3 : Int32)), .val (.int (3 : Int32)), .val (.int (0 : Int32))] []))
    refine Go.st (fun _ => XS.iloadN X0.here C.hx rfl (hb C.hby d4_91) rfl) ?_
    show Go p e below s n0 _ _ _ (T0.setTop (mkF m 92 #[.val (.ref a1), .val (.int (6 : Int32)), .val (.int (3 : Int32)), .val (.int (3 : Int32)), .val (.int (0 : Int32))] [(.int (3 : Int32))]))
    refine Go.st (fun _ => XS.iconst X0.here C.hx rfl (hb C.hby d4_92)) ?_
    show Go p e below s n0 _ _ _ (T0.setTop (mkF m 93 #[.val (.ref a1), .val (.int (6 : Int32)), .val (.int (3 : Int32)), .val (.int (3 : Int32)), .val (.int (0 : Int32))] [(.int (3 : Int32)), (.int (3 : Int32))]))
    refine Go.icmp_le C X0 (pc' := 120) d4_93 (by decide) (by decide) (fun _ => ?_) (fun hc => absurd hc (by decide))
    show Go p e below s n0 _ _ _ (T0.setTop (mkF m 120 #[.val (.ref a1), .val (.int (6 : Int32)), .val (.int (3 : Int32)), .val (.int (3 : Int32)), .val (.int (0 : Int32))] []))
    refine Go.st (fun _ => XS.iloadN X0.here C.hx rfl (hb C.hby d4_120) rfl) ?_
    show Go p e below s n0 _ _ _ (T0.setTop (mkF m 121 #[.val (.ref a1), .val (.int (6 : Int32)), .val (.int (3 : Int32)), .val (.int (3 : Int32)), .val (.int (0 : Int32))] [(.int (3 : Int32))]))
    refine Go.st (fun _ => XS.iconst X0.here C.hx rfl (hb C.hby d4_121)) ?_
    show Go p e below s n0 _ _ _ (T0.setTop (mkF m 122 #[.val (.ref a1), .val (.int (6 : Int32)), .val (.int (3 : Int32)), .val (.int (3 : Int32)), .val (.int (0 : Int32))] [(.int (4 : Int32)), (.int (3 : Int32))]))
    refine Go.icmp_le C X0 (pc' := 149) d4_122 (by decide) (by decide) (fun _ => ?_) (fun hc => absurd hc (by decide))
    show Go p e below s n0 _ _ _ (T0.setTop (mkF m 149 #[.val (.ref a1), .val (.int (6 : Int32)), .val (.int (3 : Int32)), .val (.int (3 : Int32)), .val (.int (0 : Int32))] []))
    refine Go.st (fun _ => XS.iload X0.here C.hx rfl (hb C.hby d4_149) rfl) ?_
    show Go p e below s n0 _ _ _ (T0.setTop (mkF m 151 #[.val (.ref a1), .val (.int (6 : Int32)), .val (.int (3 : Int32)), .val (.int (3 : Int32)), .val (.int (0 : Int32))] [(.int (0 : Int32))]))
    exact Go.retZ C X0 (by decide) d4_151 ⟨by simp [b2i, sameE, Esl, List.range_succ, hc23_312], rfl⟩ (by decide) (by decide)
  · show Go p e below s n0 _ _ _ (T0.setTop (mkF m 26 #[.val (.ref a1), .val (.int (6 : Int32)), .val (.int (3 : Int32)), .val (.int (3 : Int32)), .val (.int (1 : Int32))] []))
    refine Go.st (fun _ => XS.iconst X0.here C.hx rfl (hb C.hby d4_26)) ?_
    show Go p e below s n0 _ _ _ (T0.setTop (mkF m 27 #[.val (.ref a1), .val (.int (6 : Int32)), .val (.int (3 : Int32)), .val (.int (3 : Int32)), .val (.int (1 : Int32))] [(.int (1 : Int32))]))
    refine Go.st (fun _ => XS.goto X0.here C.hx rfl (pc0 := 27) (pc' := 31) rfl (hb C.hby d4_27) (by decide) (by decide)) ?_
    show Go p e below s n0 _ _ _ (T0.setTop (mkF m 31 #[.val (.ref a1), .val (.int (6 : Int32)), .val (.int (3 : Int32)), .val (.int (3 : Int32)), .val (.int (1 : Int32))] [(.int (1 : Int32))]))
    refine Go.st (fun _ => XS.istore X0.here C.hx rfl (hb C.hby d4_31) rfl (l' := #[.val (.ref a1), .val (.int (6 : Int32)), .val (.int (3 : Int32)), .val (.int (3 : Int32)), .val (.int (1 : Int32))]) rfl) ?_
    show Go p e below s n0 _ _ _ (T0.setTop (mkF m 33 #[.val (.ref a1), .val (.int (6 : Int32)), .val (.int (3 : Int32)), .val (.int (3 : Int32)), .val (.int (1 : Int32))] []))
    refine Go.st (fun _ => XS.iloadN X0.here C.hx rfl (hb C.hby d4_33) rfl) ?_
    show Go p e below s n0 _ _ _ (T0.setTop (mkF m 34 #[.val (.ref a1), .val (.int (6 : Int32)), .val (.int (3 : Int32)), .val (.int (3 : Int32)), .val (.int (1 : Int32))] [(.int (3 : Int32))]))
    refine Go.st (fun _ => XS.iconst X0.here C.hx rfl (hb C.hby d4_34)) ?_
    show Go p e below s n0 _ _ _ (T0.setTop (mkF m 35 #[.val (.ref a1), .val (.int (6 : Int32)), .val (.int (3 : Int32)), .val (.int (3 : Int32)), .val (.int (1 : Int32))] [(.int (1 : Int32)), (.int (3 : Int32))]))
    refine Go.icmp_le C X0 (pc' := 62) d4_35 (by decide) (by decide) (fun hc => absurd hc (by decide)) (fun _ => ?_)
    show Go p e below s n0 _ _ _ (T0.setTop (mkF m 38 #[.val (.ref a1), .val (.int (6 : Int32)), .val (.int (3 : Int32)), .val (.int (3 : Int32)), .val (.int (1 : Int32))] []))
    refine Go.st (fun _ => XS.iload X0.here C.hx rfl (hb C.hby d4_38) rfl) ?_
    show Go p e below s n0 _ _ _ (T0.setTop (mkF m 40 #[.val (.ref a1), .val (.int (6 : Int32)), .val (.int (3 : Int32)), .val (.int (3 : Int32)), .val (.int (1 : Int32))] [(.int (1 : Int32))]))
    refine Go.if_eq C X0 (pc' := 59) d4_40 (by decide) (by decide) (fun hc => absurd hc (by decide)) (fun _ => ?_)
    show Go p e below s n0 _ _ _ (T0.setTop (mkF m 43 #[.val (.ref a1), .val (.int (6 : Int32)), .val (.int (3 : Int32)), .val (.int (3 : Int32)), .val (.int (1 : Int32))] []))
    refine Go.st (fun _ => XS.aloadN X0.here C.hx rfl (hb C.hby d4_43) rfl rfl) ?_
    show Go p e below s n0 _ _ _ (T0.setTop (mkF m 44 #[.val (.ref a1), .val (.int (6 : Int32)), .val (.int (3 : Int32)), .val (.int (3 : Int32)), .val (.int (1 : Int32))] [(.ref a1)]))
    refine Go.st (fun _ => XS.iconst X0.here C.hx rfl (hb C.hby d4_44)) ?_
    show Go p e below s n0 _ _ _ (T0.setTop (mkF m 45 #[.val (.ref a1), .val (.int (6 : Int32)), .val (.int (3 : Int32)), .val (.int (3 : Int32)), .val (.int (1 : Int32))] [(.int (1 : Int32)), (.ref a1)]))
    refine Go.laload C X0 A1 (by decide) (getL (i := 1) hs (by decide)) d4_45 ?_
    show Go p e below s n0 _ _ _ (T0.setTop (mkF m 46 #[.val (.ref a1), .val (.int (6 : Int32)), .val (.int (3 : Int32)), .val (.int (3 : Int32)), .val (.int (1 : Int32))] [(.long (el sl 1))]))
    refine Go.st (fun _ => XS.aloadN X0.here C.hx rfl (hb C.hby d4_46) rfl rfl) ?_
    show Go p e below s n0 _ _ _ (T0.setTop (mkF m 47 #[.val (.ref a1), .val (.int (6 : Int32)), .val (.int (3 : Int32)), .val (.int (3 : Int32)), .val (.int (1 : Int32))] [(.ref a1), (.long (el sl 1))]))
    refine Go.st (fun _ => XS.iloadN X0.here C.hx rfl (hb C.hby d4_47) rfl) ?_
    show Go p e below s n0 _ _ _ (T0.setTop (mkF m 48 #[.val (.ref a1), .val (.int (6 : Int32)), .val (.int (3 : Int32)), .val (.int (3 : Int32)), .val (.int (1 : Int32))] [(.int (3 : Int32)), (.ref a1), (.long (el sl 1))]))
    refine Go.st (fun _ => XS.iconst X0.here C.hx rfl (hb C.hby d4_48)) ?_
    show Go p e below s n0 _ _ _ (T0.setTop (mkF m 49 #[.val (.ref a1), .val (.int (6 : Int32)), .val (.int (3 : Int32)), .val (.int (3 : Int32)), .val (.int (1 : Int32))] [(.int (1 : Int32)), (.int (3 : Int32)), (.ref a1), (.long (el sl 1))]))
    refine Go.st (fun _ => XS.iadd X0.here C.hx rfl (hb C.hby d4_49) rfl) ?_
    show Go p e below s n0 _ _ _ (T0.setTop (mkF m 50 #[.val (.ref a1), .val (.int (6 : Int32)), .val (.int (3 : Int32)), .val (.int (3 : Int32)), .val (.int (1 : Int32))] [(.int (4 : Int32)), (.ref a1), (.long (el sl 1))]))
    refine Go.laload C X0 A1 (by decide) (getL (i := 4) hs (by decide)) d4_50 ?_
    show Go p e below s n0 _ _ _ (T0.setTop (mkF m 51 #[.val (.ref a1), .val (.int (6 : Int32)), .val (.int (3 : Int32)), .val (.int (3 : Int32)), .val (.int (1 : Int32))] [(.long (el sl 4)), (.long (el sl 1))]))
    refine Go.st (fun _ => XS.lcmp X0.here C.hx rfl (hb C.hby d4_51) rfl) ?_
    show Go p e below s n0 _ _ _ (T0.setTop (mkF m 52 #[.val (.ref a1), .val (.int (6 : Int32)), .val (.int (3 : Int32)), .val (.int (3 : Int32)), .val (.int (1 : Int32))] [(.int (lcmpW (el sl 1) (el sl 4)))]))
    refine Go.lif_ne C X0 (pc' := 59) d4_52 (by decide) (by decide) (fun hc52_321 => ?_) (fun hc52_321 => ?_)
    · show Go p e below s n0 _ _ _ (T0.setTop (mkF m 59 #[.val (.ref a1), .val (.int (6 : Int32)), .val (.int (3 : Int32)), .val (.int (3 : Int32)), .val (.int (1 : Int32))] []))
      refine Go.st (fun _ => XS.iconst X0.here C.hx rfl (hb C.hby d4_59)) ?_
      show Go p e below s n0 _ _ _ (T0.setTop (mkF m 60 #[.val (.ref a1), .val (.int (6 : Int32)), .val (.int (3 : Int32)), .val (.int (3 : Int32)), .val (.int (1 : Int32))] [(.int (0 : Int32))]))
      refine Go.st (fun _ => XS.istore X0.here C.hx rfl (hb C.hby d4_60) rfl (l' := #[.val (.ref a1), .val (.int (6 : Int32)), .val (.int (3 : Int32)), .val (.int (3 : Int32)), .val (.int (0 : Int32))]) rfl) ?_
      show Go p e below s n0 _ _ _ (T0.setTop (mkF m 62 #[.val (.ref a1), .val (.int (6 : Int32)), .val (.int (3 : Int32)), .val (.int (3 : Int32)), .val (.int (0 : Int32))] []))
      refine Go.st (fun _ => XS.iloadN X0.here C.hx rfl (hb C.hby d4_62) rfl) ?_
      show Go p e below s n0 _ _ _ (T0.setTop (mkF m 63 #[.val (.ref a1), .val (.int (6 : Int32)), .val (.int (3 : Int32)), .val (.int (3 : Int32)), .val (.int (0 : Int32))] [(.int (3 : Int32))]))
      refine Go.st (fun _ => XS.iconst X0.here C.hx rfl (hb C.hby d4_63)) ?_
      show Go p e below s n0 _ _ _ (T0.setTop (mkF m 64 #[.val (.ref a1), .val (.int (6 : Int32)), .val (.int (3 : Int32)), .val (.int (3 : Int32)), .val (.int (0 : Int32))] [(.int (2 : Int32)), (.int (3 : Int32))]))
      refine Go.icmp_le C X0 (pc' := 91) d4_64 (by decide) (by decide) (fun hc => absurd hc (by decide)) (fun _ => ?_)
      show Go p e below s n0 _ _ _ (T0.setTop (mkF m 67 #[.val (.ref a1), .val (.int (6 : Int32)), .val (.int (3 : Int32)), .val (.int (3 : Int32)), .val (.int (0 : Int32))] []))
      refine Go.st (fun _ => XS.iload X0.here C.hx rfl (hb C.hby d4_67) rfl) ?_
      show Go p e below s n0 _ _ _ (T0.setTop (mkF m 69 #[.val (.ref a1), .val (.int (6 : Int32)), .val (.int (3 : Int32)), .val (.int (3 : Int32)), .val (.int (0 : Int32))] [(.int (0 : Int32))]))
      refine Go.if_eq C X0 (pc' := 88) d4_69 (by decide) (by decide) (fun _ => ?_) (fun hc => absurd hc (by decide))
      show Go p e below s n0 _ _ _ (T0.setTop (mkF m 88 #[.val (.ref a1), .val (.int (6 : Int32)), .val (.int (3 : Int32)), .val (.int (3 : Int32)), .val (.int (0 : Int32))] []))
      refine Go.st (fun _ => XS.iconst X0.here C.hx rfl (hb C.hby d4_88)) ?_
      show Go p e below s n0 _ _ _ (T0.setTop (mkF m 89 #[.val (.ref a1), .val (.int (6 : Int32)), .val (.int (3 : Int32)), .val (.int (3 : Int32)), .val (.int (0 : Int32))] [(.int (0 : Int32))]))
      refine Go.st (fun _ => XS.istore X0.here C.hx rfl (hb C.hby d4_89) rfl (l' := #[.val (.ref a1), .val (.int (6 : Int32)), .val (.int (3 : Int32)), .val (.int (3 : Int32)), .val (.int (0 : Int32))]) rfl) ?_
      show Go p e below s n0 _ _ _ (T0.setTop (mkF m 91 #[.val (.ref a1), .val (.int (6 : Int32)), .val (.int (3 : Int32)), .val (.int (3 : Int32)), .val (.int (0 : Int32))] []))
      refine Go.st (fun _ => XS.iloadN X0.here C.hx rfl (hb C.hby d4_91) rfl) ?_
      show Go p e below s n0 _ _ _ (T0.setTop (mkF m 92 #[.val (.ref a1), .val (.int (6 : Int32)), .val (.int (3 : Int32)), .val (.int (3 : Int32)), .val (.int (0 : Int32))] [(.int (3 : Int32))]))
      refine Go.st (fun _ => XS.iconst X0.here C.hx rfl (hb C.hby d4_92)) ?_
      show Go p e below s n0 _ _ _ (T0.setTop (mkF m 93 #[.val (.ref a1), .val (.int (6 : Int32)), .val (.int (3 : Int32)), .val (.int (3 : Int32)), .val (.int (0 : Int32))] [(.int (3 : Int32)), (.int (3 : Int32))]))
      refine Go.icmp_le C X0 (pc' := 120) d4_93 (by decide) (by decide) (fun _ => ?_) (fun hc => absurd hc (by decide))
      show Go p e below s n0 _ _ _ (T0.setTop (mkF m 120 #[.val (.ref a1), .val (.int (6 : Int32)), .val (.int (3 : Int32)), .val (.int (3 : Int32)), .val (.int (0 : Int32))] []))
      refine Go.st (fun _ => XS.iloadN X0.here C.hx rfl (hb C.hby d4_120) rfl) ?_
      show Go p e below s n0 _ _ _ (T0.setTop (mkF m 121 #[.val (.ref a1), .val (.int (6 : Int32)), .val (.int (3 : Int32)), .val (.int (3 : Int32)), .val (.int (0 : Int32))] [(.int (3 : Int32))]))
      refine Go.st (fun _ => XS.iconst X0.here C.hx rfl (hb C.hby d4_121)) ?_
      show Go p e below s n0 _ _ _ (T0.setTop (mkF m 122 #[.val (.ref a1), .val (.int (6 : Int32)), .val (.int (3 : Int32)), .val (.int (3 : Int32)), .val (.int (0 : Int32))] [(.int (4 : Int32)), (.int (3 : Int32))]))
      refine Go.icmp_le C X0 (pc' := 149) d4_122 (by decide) (by decide) (fun _ => ?_) (fun hc => absurd hc (by decide))
      show Go p e below s n0 _ _ _ (T0.setTop (mkF m 149 #[.val (.ref a1), .val (.int (6 : Int32)), .val (.int (3 : Int32)), .val (.int (3 : Int32)), .val (.int (0 : Int32))] []))
      refine Go.st (fun _ => XS.iload X0.here C.hx rfl (hb C.hby d4_149) rfl) ?_
      show Go p e below s n0 _ _ _ (T0.setTop (mkF m 151 #[.val (.ref a1), .val (.int (6 : Int32)), .val (.int (3 : Int32)), .val (.int (3 : Int32)), .val (.int (0 : Int32))] [(.int (0 : Int32))]))
      exact Go.retZ C X0 (by decide) d4_151 ⟨by simp [b2i, sameE, Esl, List.range_succ, hc23_312, hc52_321], rfl⟩ (by decide) (by decide)
    · show Go p e below s n0 _ _ _ (T0.setTop (mkF m 55 #[.val (.ref a1), .val (.int (6 : Int32)), .val (.int (3 : Int32)), .val (.int (3 : Int32)), .val (.int (1 : Int32))] []))
      refine Go.st (fun _ => XS.iconst X0.here C.hx rfl (hb C.hby d4_55)) ?_
      show Go p e below s n0 _ _ _ (T0.setTop (mkF m 56 #[.val (.ref a1), .val (.int (6 : Int32)), .val (.int (3 : Int32)), .val (.int (3 : Int32)), .val (.int (1 : Int32))] [(.int (1 : Int32))]))
      refine Go.st (fun _ => XS.goto X0.here C.hx rfl (pc0 := 56) (pc' := 60) rfl (hb C.hby d4_56) (by decide) (by decide)) ?_
      show Go p e below s n0 _ _ _ (T0.setTop (mkF m 60 #[.val (.ref a1), .val (.int (6 : Int32)), .val (.int (3 : Int32)), .val (.int (3 : Int32)), .val (.int (1 : Int32))] [(.int (1 : Int32))]))
      refine Go.st (fun _ => XS.istore X0.here C.hx rfl (hb C.hby d4_60) rfl (l' := #[.val (.ref a1), .val (.int (6 : Int32)), .val (.int (3 : Int32)), .val (.int (3 : Int32)), .val (.int (1 : Int32))]) rfl) ?_
      show Go p e below s n0 _ _ _ (T0.setTop (mkF m 62 #[.val (.ref a1), .val (.int (6 : Int32)), .val (.int (3 : Int32)), .val (.int (3 : Int32)), .val (.int (1 : Int32))] []))
      refine Go.st (fun _ => XS.iloadN X0.here C.hx rfl (hb C.hby d4_62) rfl) ?_
      show Go p e below s n0 _ _ _ (T0.setTop (mkF m 63 #[.val (.ref a1), .val (.int (6 : Int32)), .val (.int (3 : Int32)), .val (.int (3 : Int32)), .val (.int (1 : Int32))] [(.int (3 : Int32))]))
      refine Go.st (fun _ => XS.iconst X0.here C.hx rfl (hb C.hby d4_63)) ?_
      show Go p e below s n0 _ _ _ (T0.setTop (mkF m 64 #[.val (.ref a1), .val (.int (6 : Int32)), .val (.int (3 : Int32)), .val (.int (3 : Int32)), .val (.int (1 : Int32))] [(.int (2 : Int32)), (.int (3 : Int32))]))
      refine Go.icmp_le C X0 (pc' := 91) d4_64 (by decide) (by decide) (fun hc => absurd hc (by decide)) (fun _ => ?_)
      show Go p e below s n0 _ _ _ (T0.setTop (mkF m 67 #[.val (.ref a1), .val (.int (6 : Int32)), .val (.int (3 : Int32)), .val (.int (3 : Int32)), .val (.int (1 : Int32))] []))
      refine Go.st (fun _ => XS.iload X0.here C.hx rfl (hb C.hby d4_67) rfl) ?_
      show Go p e below s n0 _ _ _ (T0.setTop (mkF m 69 #[.val (.ref a1), .val (.int (6 : Int32)), .val (.int (3 : Int32)), .val (.int (3 : Int32)), .val (.int (1 : Int32))] [(.int (1 : Int32))]))
      refine Go.if_eq C X0 (pc' := 88) d4_69 (by decide) (by decide) (fun hc => absurd hc (by decide)) (fun _ => ?_)
      show Go p e below s n0 _ _ _ (T0.setTop (mkF m 72 #[.val (.ref a1), .val (.int (6 : Int32)), .val (.int (3 : Int32)), .val (.int (3 : Int32)), .val (.int (1 : Int32))] []))
      refine Go.st (fun _ => XS.aloadN X0.here C.hx rfl (hb C.hby d4_72) rfl rfl) ?_
      show Go p e below s n0 _ _ _ (T0.setTop (mkF m 73 #[.val (.ref a1), .val (.int (6 : Int32)), .val (.int (3 : Int32)), .val (.int (3 : Int32)), .val (.int (1 : Int32))] [(.ref a1)]))
      refine Go.st (fun _ => XS.iconst X0.here C.hx rfl (hb C.hby d4_73)) ?_
      show Go p e below s n0 _ _ _ (T0.setTop (mkF m 74 #[.val (.ref a1), .val (.int (6 : Int32)), .val (.int (3 : Int32)), .val (.int (3 : Int32)), .val (.int (1 : Int32))] [(.int (2 : Int32)), (.ref a1)]))
      refine Go.laload C X0 A1 (by decide) (getL (i := 2) hs (by decide)) d4_74 ?_
      show Go p e below s n0 _ _ _ (T0.setTop (mkF m 75 #[.val (.ref a1), .val (.int (6 : Int32)), .val (.int (3 : Int32)), .val (.int (3 : Int32)), .val (.int (1 : Int32))] [(.long (el sl 2))]))
      refine Go.st (fun _ => XS.aloadN X0.here C.hx rfl (hb C.hby d4_75) rfl rfl) ?_
      show Go p e below s n0 _ _ _ (T0.setTop (mkF m 76 #[.val (.ref a1), .val (.int (6 : Int32)), .val (.int (3 : Int32)), .val (.int (3 : Int32)), .val (.int (1 : Int32))] [(.ref a1), (.long (el sl 2))]))
      refine Go.st (fun _ => XS.iloadN X0.here C.hx rfl (hb C.hby d4_76) rfl) ?_
      show Go p e below s n0 _ _ _ (T0.setTop (mkF m 77 #[.val (.ref a1), .val (.int (6 : Int32)), .val (.int (3 : Int32)), .val (.int (3 : Int32)), .val (.int (1 : Int32))] [(.int (3 : Int32)), (.ref a1), (.long (el sl 2))]))
      refine Go.st (fun _ => XS.iconst X0.here C.hx rfl (hb C.hby d4_77)) ?_
      show Go p e below s n0 _ _ _ (T0.setTop (mkF m 78 #[.val (.ref a1), .val (.int (6 : Int32)), .val (.int (3 : Int32)), .val (.int (3 : Int32)), .val (.int (1 : Int32))] [(.int (2 : Int32)), (.int (3 : Int32)), (.ref a1), (.long (el sl 2))]))
      refine Go.st (fun _ => XS.iadd X0.here C.hx rfl (hb C.hby d4_78) rfl) ?_
      show Go p e below s n0 _ _ _ (T0.setTop (mkF m 79 #[.val (.ref a1), .val (.int (6 : Int32)), .val (.int (3 : Int32)), .val (.int (3 : Int32)), .val (.int (1 : Int32))] [(.int (5 : Int32)), (.ref a1), (.long (el sl 2))]))
      refine Go.laload C X0 A1 (by decide) (getL (i := 5) hs (by decide)) d4_79 ?_
      show Go p e below s n0 _ _ _ (T0.setTop (mkF m 80 #[.val (.ref a1), .val (.int (6 : Int32)), .val (.int (3 : Int32)), .val (.int (3 : Int32)), .val (.int (1 : Int32))] [(.long (el sl 5)), (.long (el sl 2))]))
      refine Go.st (fun _ => XS.lcmp X0.here C.hx rfl (hb C.hby d4_80) rfl) ?_
      show Go p e below s n0 _ _ _ (T0.setTop (mkF m 81 #[.val (.ref a1), .val (.int (6 : Int32)), .val (.int (3 : Int32)), .val (.int (3 : Int32)), .val (.int (1 : Int32))] [(.int (lcmpW (el sl 2) (el sl 5)))]))
      refine Go.lif_ne C X0 (pc' := 88) d4_81 (by decide) (by decide) (fun hc81_328 => ?_) (fun hc81_328 => ?_)
      · show Go p e below s n0 _ _ _ (T0.setTop (mkF m 88 #[.val (.ref a1), .val (.int (6 : Int32)), .val (.int (3 : Int32)), .val (.int (3 : Int32)), .val (.int (1 : Int32))] []))
        refine Go.st (fun _ => XS.iconst X0.here C.hx rfl (hb C.hby d4_88)) ?_
        show Go p e below s n0 _ _ _ (T0.setTop (mkF m 89 #[.val (.ref a1), .val (.int (6 : Int32)), .val (.int (3 : Int32)), .val (.int (3 : Int32)), .val (.int (1 : Int32))] [(.int (0 : Int32))]))
        refine Go.st (fun _ => XS.istore X0.here C.hx rfl (hb C.hby d4_89) rfl (l' := #[.val (.ref a1), .val (.int (6 : Int32)), .val (.int (3 : Int32)), .val (.int (3 : Int32)), .val (.int (0 : Int32))]) rfl) ?_
        show Go p e below s n0 _ _ _ (T0.setTop (mkF m 91 #[.val (.ref a1), .val (.int (6 : Int32)), .val (.int (3 : Int32)), .val (.int (3 : Int32)), .val (.int (0 : Int32))] []))
        refine Go.st (fun _ => XS.iloadN X0.here C.hx rfl (hb C.hby d4_91) rfl) ?_
        show Go p e below s n0 _ _ _ (T0.setTop (mkF m 92 #[.val (.ref a1), .val (.int (6 : Int32)), .val (.int (3 : Int32)), .val (.int (3 : Int32)), .val (.int (0 : Int32))] [(.int (3 : Int32))]))
        refine Go.st (fun _ => XS.iconst X0.here C.hx rfl (hb C.hby d4_92)) ?_
        show Go p e below s n0 _ _ _ (T0.setTop (mkF m 93 #[.val (.ref a1), .val (.int (6 : Int32)), .val (.int (3 : Int32)), .val (.int (3 : Int32)), .val (.int (0 : Int32))] [(.int (3 : Int32)), (.int (3 : Int32))]))
        refine Go.icmp_le C X0 (pc' := 120) d4_93 (by decide) (by decide) (fun _ => ?_) (fun hc => absurd hc (by decide))
        show Go p e below s n0 _ _ _ (T0.setTop (mkF m 120 #[.val (.ref a1), .val (.int (6 : Int32)), .val (.int (3 : Int32)), .val (.int (3 : Int32)), .val (.int (0 : Int32))] []))
        refine Go.st (fun _ => XS.iloadN X0.here C.hx rfl (hb C.hby d4_120) rfl) ?_
        show Go p e below s n0 _ _ _ (T0.setTop (mkF m 121 #[.val (.ref a1), .val (.int (6 : Int32)), .val (.int (3 : Int32)), .val (.int (3 : Int32)), .val (.int (0 : Int32))] [(.int (3 : Int32))]))
        refine Go.st (fun _ => XS.iconst X0.here C.hx rfl (hb C.hby d4_121)) ?_
        show Go p e below s n0 _ _ _ (T0.setTop (mkF m 122 #[.val (.ref a1), .val (.int (6 : Int32)), .val (.int (3 : Int32)), .val (.int (3 : Int32)), .val (.int (0 : Int32))] [(.int (4 : Int32)), (.int (3 : Int32))]))
        refine Go.icmp_le C X0 (pc' := 149) d4_122 (by decide) (by decide) (fun _ => ?_) (fun hc => absurd hc (by decide))
        show Go p e below s n0 _ _ _ (T0.setTop (mkF m 149 #[.val (.ref a1), .val (.int (6 : Int32)), .val (.int (3 : Int32)), .val (.int (3 : Int32)), .val (.int (0 : Int32))] []))
        refine Go.st (fun _ => XS.iload X0.here C.hx rfl (hb C.hby d4_149) rfl) ?_
        show Go p e below s n0 _ _ _ (T0.setTop (mkF m 151 #[.val (.ref a1), .val (.int (6 : Int32)), .val (.int (3 : Int32)), .val (.int (3 : Int32)), .val (.int (0 : Int32))] [(.int (0 : Int32))]))
        exact Go.retZ C X0 (by decide) d4_151 ⟨by simp [b2i, sameE, Esl, List.range_succ, hc23_312, hc52_321, hc81_328], rfl⟩ (by decide) (by decide)
      · show Go p e below s n0 _ _ _ (T0.setTop (mkF m 84 #[.val (.ref a1), .val (.int (6 : Int32)), .val (.int (3 : Int32)), .val (.int (3 : Int32)), .val (.int (1 : Int32))] []))
        refine Go.st (fun _ => XS.iconst X0.here C.hx rfl (hb C.hby d4_84)) ?_
        show Go p e below s n0 _ _ _ (T0.setTop (mkF m 85 #[.val (.ref a1), .val (.int (6 : Int32)), .val (.int (3 : Int32)), .val (.int (3 : Int32)), .val (.int (1 : Int32))] [(.int (1 : Int32))]))
        refine Go.st (fun _ => XS.goto X0.here C.hx rfl (pc0 := 85) (pc' := 89) rfl (hb C.hby d4_85) (by decide) (by decide)) ?_
        show Go p e below s n0 _ _ _ (T0.setTop (mkF m 89 #[.val (.ref a1), .val (.int (6 : Int32)), .val (.int (3 : Int32)), .val (.int (3 : Int32)), .val (.int (1 : Int32))] [(.int (1 : Int32))]))
        refine Go.st (fun _ => XS.istore X0.here C.hx rfl (hb C.hby d4_89) rfl (l' := #[.val (.ref a1), .val (.int (6 : Int32)), .val (.int (3 : Int32)), .val (.int (3 : Int32)), .val (.int (1 : Int32))]) rfl) ?_
        show Go p e below s n0 _ _ _ (T0.setTop (mkF m 91 #[.val (.ref a1), .val (.int (6 : Int32)), .val (.int (3 : Int32)), .val (.int (3 : Int32)), .val (.int (1 : Int32))] []))
        refine Go.st (fun _ => XS.iloadN X0.here C.hx rfl (hb C.hby d4_91) rfl) ?_
        show Go p e below s n0 _ _ _ (T0.setTop (mkF m 92 #[.val (.ref a1), .val (.int (6 : Int32)), .val (.int (3 : Int32)), .val (.int (3 : Int32)), .val (.int (1 : Int32))] [(.int (3 : Int32))]))
        refine Go.st (fun _ => XS.iconst X0.here C.hx rfl (hb C.hby d4_92)) ?_
        show Go p e below s n0 _ _ _ (T0.setTop (mkF m 93 #[.val (.ref a1), .val (.int (6 : Int32)), .val (.int (3 : Int32)), .val (.int (3 : Int32)), .val (.int (1 : Int32))] [(.int (3 : Int32)), (.int (3 : Int32))]))
        refine Go.icmp_le C X0 (pc' := 120) d4_93 (by decide) (by decide) (fun _ => ?_) (fun hc => absurd hc (by decide))
        show Go p e below s n0 _ _ _ (T0.setTop (mkF m 120 #[.val (.ref a1), .val (.int (6 : Int32)), .val (.int (3 : Int32)), .val (.int (3 : Int32)), .val (.int (1 : Int32))] []))
        refine Go.st (fun _ => XS.iloadN X0.here C.hx rfl (hb C.hby d4_120) rfl) ?_
        show Go p e below s n0 _ _ _ (T0.setTop (mkF m 121 #[.val (.ref a1), .val (.int (6 : Int32)), .val (.int (3 : Int32)), .val (.int (3 : Int32)), .val (.int (1 : Int32))] [(.int (3 : Int32))]))
        refine Go.st (fun _ => XS.iconst X0.here C.hx rfl (hb C.hby d4_121)) ?_
        show Go p e below s n0 _ _ _ (T0.setTop (mkF m 122 #[.val (.ref a1), .val (.int (6 : Int32)), .val (.int (3 : Int32)), .val (.int (3 : Int32)), .val (.int (1 : Int32))] [(.int (4 : Int32)), (.int (3 : Int32))]))
        refine Go.icmp_le C X0 (pc' := 149) d4_122 (by decide) (by decide) (fun _ => ?_) (fun hc => absurd hc (by decide))
        show Go p e below s n0 _ _ _ (T0.setTop (mkF m 149 #[.val (.ref a1), .val (.int (6 : Int32)), .val (.int (3 : Int32)), .val (.int (3 : Int32)), .val (.int (1 : Int32))] []))
        refine Go.st (fun _ => XS.iload X0.here C.hx rfl (hb C.hby d4_149) rfl) ?_
        show Go p e below s n0 _ _ _ (T0.setTop (mkF m 151 #[.val (.ref a1), .val (.int (6 : Int32)), .val (.int (3 : Int32)), .val (.int (3 : Int32)), .val (.int (1 : Int32))] [(.int (1 : Int32))]))
        exact Go.retZ C X0 (by decide) d4_151 ⟨by simp [b2i, sameE, Esl, List.range_succ, hc23_312, hc52_321, hc81_328], rfl⟩ (by decide) (by decide)
set_option maxRecDepth 65536 in
set_option maxHeartbeats 40000000 in
theorem con_same_6_4 (l : Launch) (Z : State) (a0 : Array Value) (hw : ∀ d ∈ tables_1, d.before a0 Z = true) (n0 : Nat) (h0 : Heap) (Z0 : n0 ≤ h0.size) (a1 : Addr) (sl : List Int64) (hs : sl.length = 6) (A1 : AR Z h0 a1 .long (sl.map Value.long)) :
    Con l Z (⟨"com/example/orderly_ring/orderlyring/model/SequencesExtendBordersPinLaw", "same", "([JII)Z"⟩ : MethodName) method_3_code 5 (some .boolean) [] ({ frames := 0, cells := 0, slots := 0, locals := 0 } : Room) n0 #[(.ref a1), (.int (6 : Int32)), (.int (4 : Int32))] h0 (fun v h => v = some (.int (b2i (sameE (Esl sl) 6 4))) ∧ h = h0) := by
  refine Con.mk pf_4 hw Z0 ?_
  intro p e s m below meth c T0 C X0
  have ef : entryFrame m #[(.ref a1), (.int (6 : Int32)), (.int (4 : Int32))] 5 = mkF m 0 #[.val (.ref a1), .val (.int (6 : Int32)), .val (.int (4 : Int32)), .unset, .unset] [] := by first | (simp [entryFrame, mkF, argsToLocals, Value.category]; done) | rfl
  rw [ef]
  show Go p e below s n0 _ _ _ (T0.setTop (mkF m 0 #[.val (.ref a1), .val (.int (6 : Int32)), .val (.int (4 : Int32)), .unset, .unset] []))
  refine Go.st (fun _ => XS.iloadN X0.here C.hx rfl (hb C.hby d4_0) rfl) ?_
  show Go p e below s n0 _ _ _ (T0.setTop (mkF m 1 #[.val (.ref a1), .val (.int (6 : Int32)), .val (.int (4 : Int32)), .unset, .unset] [(.int (6 : Int32))]))
  refine Go.st (fun _ => XS.iloadN X0.here C.hx rfl (hb C.hby d4_1) rfl) ?_
  show Go p e below s n0 _ _ _ (T0.setTop (mkF m 2 #[.val (.ref a1), .val (.int (6 : Int32)), .val (.int (4 : Int32)), .unset, .unset] [(.int (4 : Int32)), (.int (6 : Int32))]))
  refine Go.st (fun _ => XS.isub X0.here C.hx rfl (hb C.hby d4_2) rfl) ?_
  show Go p e below s n0 _ _ _ (T0.setTop (mkF m 3 #[.val (.ref a1), .val (.int (6 : Int32)), .val (.int (4 : Int32)), .unset, .unset] [(.int (2 : Int32))]))
  refine Go.st (fun _ => XS.istoreN X0.here C.hx rfl (hb C.hby d4_3) rfl (l' := #[.val (.ref a1), .val (.int (6 : Int32)), .val (.int (4 : Int32)), .val (.int (2 : Int32)), .unset]) rfl) ?_
  show Go p e below s n0 _ _ _ (T0.setTop (mkF m 4 #[.val (.ref a1), .val (.int (6 : Int32)), .val (.int (4 : Int32)), .val (.int (2 : Int32)), .unset] []))
  refine Go.st (fun _ => XS.iconst X0.here C.hx rfl (hb C.hby d4_4)) ?_
  show Go p e below s n0 _ _ _ (T0.setTop (mkF m 5 #[.val (.ref a1), .val (.int (6 : Int32)), .val (.int (4 : Int32)), .val (.int (2 : Int32)), .unset] [(.int (1 : Int32))]))
  refine Go.st (fun _ => XS.istore X0.here C.hx rfl (hb C.hby d4_5) rfl (l' := #[.val (.ref a1), .val (.int (6 : Int32)), .val (.int (4 : Int32)), .val (.int (2 : Int32)), .val (.int (1 : Int32))]) rfl) ?_
  show Go p e below s n0 _ _ _ (T0.setTop (mkF m 7 #[.val (.ref a1), .val (.int (6 : Int32)), .val (.int (4 : Int32)), .val (.int (2 : Int32)), .val (.int (1 : Int32))] []))
  refine Go.st (fun _ => XS.iloadN X0.here C.hx rfl (hb C.hby d4_7) rfl) ?_
  show Go p e below s n0 _ _ _ (T0.setTop (mkF m 8 #[.val (.ref a1), .val (.int (6 : Int32)), .val (.int (4 : Int32)), .val (.int (2 : Int32)), .val (.int (1 : Int32))] [(.int (4 : Int32))]))
  refine Go.if_le C X0 (pc' := 33) d4_8 (by decide) (by decide) (fun hc => absurd hc (by decide)) (fun _ => ?_)
  show Go p e below s n0 _ _ _ (T0.setTop (mkF m 11 #[.val (.ref a1), .val (.int (6 : Int32)), .val (.int (4 : Int32)), .val (.int (2 : Int32)), .val (.int (1 : Int32))] []))
  refine Go.st (fun _ => XS.iload X0.here C.hx rfl (hb C.hby d4_11) rfl) ?_
  show Go p e below s n0 _ _ _ (T0.setTop (mkF m 13 #[.val (.ref a1), .val (.int (6 : Int32)), .val (.int (4 : Int32)), .val (.int (2 : Int32)), .val (.int (1 : Int32))] [(.int (1 : Int32))]))
  refine Go.if_eq C X0 (pc' := 30) d4_13 (by decide) (by decide) (fun hc => absurd hc (by decide)) (fun _ => ?_)
  show Go p e below s n0 _ _ _ (T0.setTop (mkF m 16 #[.val (.ref a1), .val (.int (6 : Int32)), .val (.int (4 : Int32)), .val (.int (2 : Int32)), .val (.int (1 : Int32))] []))
  refine Go.st (fun _ => XS.aloadN X0.here C.hx rfl (hb C.hby d4_16) rfl rfl) ?_
  show Go p e below s n0 _ _ _ (T0.setTop (mkF m 17 #[.val (.ref a1), .val (.int (6 : Int32)), .val (.int (4 : Int32)), .val (.int (2 : Int32)), .val (.int (1 : Int32))] [(.ref a1)]))
  refine Go.st (fun _ => XS.iconst X0.here C.hx rfl (hb C.hby d4_17)) ?_
  show Go p e below s n0 _ _ _ (T0.setTop (mkF m 18 #[.val (.ref a1), .val (.int (6 : Int32)), .val (.int (4 : Int32)), .val (.int (2 : Int32)), .val (.int (1 : Int32))] [(.int (0 : Int32)), (.ref a1)]))
  refine Go.laload C X0 A1 (by decide) (getL (i := 0) hs (by decide)) d4_18 ?_
  show Go p e below s n0 _ _ _ (T0.setTop (mkF m 19 #[.val (.ref a1), .val (.int (6 : Int32)), .val (.int (4 : Int32)), .val (.int (2 : Int32)), .val (.int (1 : Int32))] [(.long (el sl 0))]))
  refine Go.st (fun _ => XS.aloadN X0.here C.hx rfl (hb C.hby d4_19) rfl rfl) ?_
  show Go p e below s n0 _ _ _ (T0.setTop (mkF m 20 #[.val (.ref a1), .val (.int (6 : Int32)), .val (.int (4 : Int32)), .val (.int (2 : Int32)), .val (.int (1 : Int32))] [(.ref a1), (.long (el sl 0))]))
  refine Go.st (fun _ => XS.iloadN X0.here C.hx rfl (hb C.hby d4_20) rfl) ?_
  show Go p e below s n0 _ _ _ (T0.setTop (mkF m 21 #[.val (.ref a1), .val (.int (6 : Int32)), .val (.int (4 : Int32)), .val (.int (2 : Int32)), .val (.int (1 : Int32))] [(.int (2 : Int32)), (.ref a1), (.long (el sl 0))]))
  refine Go.laload C X0 A1 (by decide) (getL (i := 2) hs (by decide)) d4_21 ?_
  show Go p e below s n0 _ _ _ (T0.setTop (mkF m 22 #[.val (.ref a1), .val (.int (6 : Int32)), .val (.int (4 : Int32)), .val (.int (2 : Int32)), .val (.int (1 : Int32))] [(.long (el sl 2)), (.long (el sl 0))]))
  refine Go.st (fun _ => XS.lcmp X0.here C.hx rfl (hb C.hby d4_22) rfl) ?_
  show Go p e below s n0 _ _ _ (T0.setTop (mkF m 23 #[.val (.ref a1), .val (.int (6 : Int32)), .val (.int (4 : Int32)), .val (.int (2 : Int32)), .val (.int (1 : Int32))] [(.int (lcmpW (el sl 0) (el sl 2)))]))
  refine Go.lif_ne C X0 (pc' := 30) d4_23 (by decide) (by decide) (fun hc23_335 => ?_) (fun hc23_335 => ?_)
  · show Go p e below s n0 _ _ _ (T0.setTop (mkF m 30 #[.val (.ref a1), .val (.int (6 : Int32)), .val (.int (4 : Int32)), .val (.int (2 : Int32)), .val (.int (1 : Int32))] []))
    refine Go.st (fun _ => XS.iconst X0.here C.hx rfl (hb C.hby d4_30)) ?_
    show Go p e below s n0 _ _ _ (T0.setTop (mkF m 31 #[.val (.ref a1), .val (.int (6 : Int32)), .val (.int (4 : Int32)), .val (.int (2 : Int32)), .val (.int (1 : Int32))] [(.int (0 : Int32))]))
    refine Go.st (fun _ => XS.istore X0.here C.hx rfl (hb C.hby d4_31) rfl (l' := #[.val (.ref a1), .val (.int (6 : Int32)), .val (.int (4 : Int32)), .val (.int (2 : Int32)), .val (.int (0 : Int32))]) rfl) ?_
    show Go p e below s n0 _ _ _ (T0.setTop (mkF m 33 #[.val (.ref a1), .val (.int (6 : Int32)), .val (.int (4 : Int32)), .val (.int (2 : Int32)), .val (.int (0 : Int32))] []))
    refine Go.st (fun _ => XS.iloadN X0.here C.hx rfl (hb C.hby d4_33) rfl) ?_
    show Go p e below s n0 _ _ _ (T0.setTop (mkF m 34 #[.val (.ref a1), .val (.int (6 : Int32)), .val (.int (4 : Int32)), .val (.int (2 : Int32)), .val (.int (0 : Int32))] [(.int (4 : Int32))]))
    refine Go.st (fun _ => XS.iconst X0.here C.hx rfl (hb C.hby d4_34)) ?_
    show Go p e below s n0 _ _ _ (T0.setTop (mkF m 35 #[.val (.ref a1), .val (.int (6 : Int32)), .val (.int (4 : Int32)), .val (.int (2 : Int32)), .val (.int (0 : Int32))] [(.int (1 : Int32)), (.int (4 : Int32))]))
    refine Go.icmp_le C X0 (pc' := 62) d4_35 (by decide) (by decide) (fun hc => absurd hc (by decide)) (fun _ => ?_)
    show Go p e below s n0 _ _ _ (T0.setTop (mkF m 38 #[.val (.ref a1), .val (.int (6 : Int32)), .val (.int (4 : Int32)), .val (.int (2 : Int32)), .val (.int (0 : Int32))] []))
    refine Go.st (fun _ => XS.iload X0.here C.hx rfl (hb C.hby d4_38) rfl) ?_
    show Go p e below s n0 _ _ _ (T0.setTop (mkF m 40 #[.val (.ref a1), .val (.int (6 : Int32)), .val (.int (4 : Int32)), .val (.int (2 : Int32)), .val (.int (0 : Int32))] [(.int (0 : Int32))]))
    refine Go.if_eq C X0 (pc' := 59) d4_40 (by decide) (by decide) (fun _ => ?_) (fun hc => absurd hc (by decide))
    show Go p e below s n0 _ _ _ (T0.setTop (mkF m 59 #[.val (.ref a1), .val (.int (6 : Int32)), .val (.int (4 : Int32)), .val (.int (2 : Int32)), .val (.int (0 : Int32))] []))
    refine Go.st (fun _ => XS.iconst X0.here C.hx rfl (hb C.hby d4_59)) ?_
    show Go p e below s n0 _ _ _ (T0.setTop (mkF m 60 #[.val (.ref a1), .val (.int (6 : Int32)), .val (.int (4 : Int32)), .val (.int (2 : Int32)), .val (.int (0 : Int32))] [(.int (0 : Int32))]))
    refine Go.st (fun _ => XS.istore X0.here C.hx rfl (hb C.hby d4_60) rfl (l' := #[.val (.ref a1), .val (.int (6 : Int32)), .val (.int (4 : Int32)), .val (.int (2 : Int32)), .val (.int (0 : Int32))]) rfl) ?_
    show Go p e below s n0 _ _ _ (T0.setTop (mkF m 62 #[.val (.ref a1), .val (.int (6 : Int32)), .val (.int (4 : Int32)), .val (.int (2 : Int32)), .val (.int (0 : Int32))] []))
    refine Go.st (fun _ => XS.iloadN X0.here C.hx rfl (hb C.hby d4_62) rfl) ?_
    show Go p e below s n0 _ _ _ (T0.setTop (mkF m 63 #[.val (.ref a1), .val (.int (6 : Int32)), .val (.int (4 : Int32)), .val (.int (2 : Int32)), .val (.int (0 : Int32))] [(.int (4 : Int32))]))
    refine Go.st (fun _ => XS.iconst X0.here C.hx rfl (hb C.hby d4_63)) ?_
    show Go p e below s n0 _ _ _ (T0.setTop (mkF m 64 #[.val (.ref a1), .val (.int (6 : Int32)), .val (.int (4 : Int32)), .val (.int (2 : Int32)), .val (.int (0 : Int32))] [(.int (2 : Int32)), (.int (4 : Int32))]))
    refine Go.icmp_le C X0 (pc' := 91) d4_64 (by decide) (by decide) (fun hc => absurd hc (by decide)) (fun _ => ?_)
    show Go p e below s n0 _ _ _ (T0.setTop (mkF m 67 #[.val (.ref a1), .val (.int (6 : Int32)), .val (.int (4 : Int32)), .val (.int (2 : Int32)), .val (.int (0 : Int32))] []))
    refine Go.st (fun _ => XS.iload X0.here C.hx rfl (hb C.hby d4_67) rfl) ?_
    show Go p e below s n0 _ _ _ (T0.setTop (mkF m 69 #[.val (.ref a1), .val (.int (6 : Int32)), .val (.int (4 : Int32)), .val (.int (2 : Int32)), .val (.int (0 : Int32))] [(.int (0 : Int32))]))
    refine Go.if_eq C X0 (pc' := 88) d4_69 (by decide) (by decide) (fun _ => ?_) (fun hc => absurd hc (by decide))
    show Go p e below s n0 _ _ _ (T0.setTop (mkF m 88 #[.val (.ref a1), .val (.int (6 : Int32)), .val (.int (4 : Int32)), .val (.int (2 : Int32)), .val (.int (0 : Int32))] []))
    refine Go.st (fun _ => XS.iconst X0.here C.hx rfl (hb C.hby d4_88)) ?_
    show Go p e below s n0 _ _ _ (T0.setTop (mkF m 89 #[.val (.ref a1), .val (.int (6 : Int32)), .val (.int (4 : Int32)), .val (.int (2 : Int32)), .val (.int (0 : Int32))] [(.int (0 : Int32))]))
    refine Go.st (fun _ => XS.istore X0.here C.hx rfl (hb C.hby d4_89) rfl (l' := #[.val (.ref a1), .val (.int (6 : Int32)), .val (.int (4 : Int32)), .val (.int (2 : Int32)), .val (.int (0 : Int32))]) rfl) ?_
    show Go p e below s n0 _ _ _ (T0.setTop (mkF m 91 #[.val (.ref a1), .val (.int (6 : Int32)), .val (.int (4 : Int32)), .val (.int (2 : Int32)), .val (.int (0 : Int32))] []))
    refine Go.st (fun _ => XS.iloadN X0.here C.hx rfl (hb C.hby d4_91) rfl) ?_
    show Go p e below s n0 _ _ _ (T0.setTop (mkF m 92 #[.val (.ref a1), .val (.int (6 : Int32)), .val (.int (4 : Int32)), .val (.int (2 : Int32)), .val (.int (0 : Int32))] [(.int (4 : Int32))]))
    refine Go.st (fun _ => XS.iconst X0.here C.hx rfl (hb C.hby d4_92)) ?_
    show Go p e below s n0 _ _ _ (T0.setTop (mkF m 93 #[.val (.ref a1), .val (.int (6 : Int32)), .val (.int (4 : Int32)), .val (.int (2 : Int32)), .val (.int (0 : Int32))] [(.int (3 : Int32)), (.int (4 : Int32))]))
    refine Go.icmp_le C X0 (pc' := 120) d4_93 (by decide) (by decide) (fun hc => absurd hc (by decide)) (fun _ => ?_)
    show Go p e below s n0 _ _ _ (T0.setTop (mkF m 96 #[.val (.ref a1), .val (.int (6 : Int32)), .val (.int (4 : Int32)), .val (.int (2 : Int32)), .val (.int (0 : Int32))] []))
    refine Go.st (fun _ => XS.iload X0.here C.hx rfl (hb C.hby d4_96) rfl) ?_
    show Go p e below s n0 _ _ _ (T0.setTop (mkF m 98 #[.val (.ref a1), .val (.int (6 : Int32)), .val (.int (4 : Int32)), .val (.int (2 : Int32)), .val (.int (0 : Int32))] [(.int (0 : Int32))]))
    refine Go.if_eq C X0 (pc' := 117) d4_98 (by decide) (by decide) (fun _ => ?_) (fun hc => absurd hc (by decide))
    show Go p e below s n0 _ _ _ (T0.setTop (mkF m 117 #[.val (.ref a1), .val (.int (6 : Int32)), .val (.int (4 : Int32)), .val (.int (2 : Int32)), .val (.int (0 : Int32))] []))
    refine Go.st (fun _ => XS.iconst X0.here C.hx rfl (hb C.hby d4_117)) ?_
    show Go p e below s n0 _ _ _ (T0.setTop (mkF m 118 #[.val (.ref a1), .val (.int (6 : Int32)), .val (.int (4 : Int32)), .val (.int (2 : Int32)), .val (.int (0 : Int32))] [(.int (0 : Int32))]))
    refine Go.st (fun _ => XS.istore X0.here C.hx rfl (hb C.hby d4_118) rfl (l' := #[.val (.ref a1), .val (.int (6 : Int32)), .val (.int (4 : Int32)), .val (.int (2 : Int32)), .val (.int (0 : Int32))]) rfl) ?_
    show Go p e below s n0 _ _ _ (T0.setTop (mkF m 120 #[.val (.ref a1), .val (.int (6 : Int32)), .val (.int (4 : Int32)), .val (.int (2 : Int32)), .val (.int (0 : Int32))] []))
    refine Go.st (fun _ => XS.iloadN X0.here C.hx rfl (hb C.hby d4_120) rfl) ?_
    show Go p e below s n0 _ _ _ (T0.setTop (mkF m 121 #[.val (.ref a1), .val (.int (6 : Int32)), .val (.int (4 : Int32)), .val (.int (2 : Int32)), .val (.int (0 : Int32))] [(.int (4 : Int32))]))
    refine Go.st (fun _ => XS.iconst X0.here C.hx rfl (hb C.hby d4_121)) ?_
    show Go p e below s n0 _ _ _ (T0.setTop (mkF m 122 #[.val (.ref a1), .val (.int (6 : Int32)), .val (.int (4 : Int32)), .val (.int (2 : Int32)), .val (.int (0 : Int32))] [(.int (4 : Int32)), (.int (4 : Int32))]))
    refine Go.icmp_le C X0 (pc' := 149) d4_122 (by decide) (by decide) (fun _ => ?_) (fun hc => absurd hc (by decide))
    show Go p e below s n0 _ _ _ (T0.setTop (mkF m 149 #[.val (.ref a1), .val (.int (6 : Int32)), .val (.int (4 : Int32)), .val (.int (2 : Int32)), .val (.int (0 : Int32))] []))
    refine Go.st (fun _ => XS.iload X0.here C.hx rfl (hb C.hby d4_149) rfl) ?_
    show Go p e below s n0 _ _ _ (T0.setTop (mkF m 151 #[.val (.ref a1), .val (.int (6 : Int32)), .val (.int (4 : Int32)), .val (.int (2 : Int32)), .val (.int (0 : Int32))] [(.int (0 : Int32))]))
    exact Go.retZ C X0 (by decide) d4_151 ⟨by simp [b2i, sameE, Esl, List.range_succ, hc23_335], rfl⟩ (by decide) (by decide)
  · show Go p e below s n0 _ _ _ (T0.setTop (mkF m 26 #[.val (.ref a1), .val (.int (6 : Int32)), .val (.int (4 : Int32)), .val (.int (2 : Int32)), .val (.int (1 : Int32))] []))
    refine Go.st (fun _ => XS.iconst X0.here C.hx rfl (hb C.hby d4_26)) ?_
    show Go p e below s n0 _ _ _ (T0.setTop (mkF m 27 #[.val (.ref a1), .val (.int (6 : Int32)), .val (.int (4 : Int32)), .val (.int (2 : Int32)), .val (.int (1 : Int32))] [(.int (1 : Int32))]))
    refine Go.st (fun _ => XS.goto X0.here C.hx rfl (pc0 := 27) (pc' := 31) rfl (hb C.hby d4_27) (by decide) (by decide)) ?_
    show Go p e below s n0 _ _ _ (T0.setTop (mkF m 31 #[.val (.ref a1), .val (.int (6 : Int32)), .val (.int (4 : Int32)), .val (.int (2 : Int32)), .val (.int (1 : Int32))] [(.int (1 : Int32))]))
    refine Go.st (fun _ => XS.istore X0.here C.hx rfl (hb C.hby d4_31) rfl (l' := #[.val (.ref a1), .val (.int (6 : Int32)), .val (.int (4 : Int32)), .val (.int (2 : Int32)), .val (.int (1 : Int32))]) rfl) ?_
    show Go p e below s n0 _ _ _ (T0.setTop (mkF m 33 #[.val (.ref a1), .val (.int (6 : Int32)), .val (.int (4 : Int32)), .val (.int (2 : Int32)), .val (.int (1 : Int32))] []))
    refine Go.st (fun _ => XS.iloadN X0.here C.hx rfl (hb C.hby d4_33) rfl) ?_
    show Go p e below s n0 _ _ _ (T0.setTop (mkF m 34 #[.val (.ref a1), .val (.int (6 : Int32)), .val (.int (4 : Int32)), .val (.int (2 : Int32)), .val (.int (1 : Int32))] [(.int (4 : Int32))]))
    refine Go.st (fun _ => XS.iconst X0.here C.hx rfl (hb C.hby d4_34)) ?_
    show Go p e below s n0 _ _ _ (T0.setTop (mkF m 35 #[.val (.ref a1), .val (.int (6 : Int32)), .val (.int (4 : Int32)), .val (.int (2 : Int32)), .val (.int (1 : Int32))] [(.int (1 : Int32)), (.int (4 : Int32))]))
    refine Go.icmp_le C X0 (pc' := 62) d4_35 (by decide) (by decide) (fun hc => absurd hc (by decide)) (fun _ => ?_)
    show Go p e below s n0 _ _ _ (T0.setTop (mkF m 38 #[.val (.ref a1), .val (.int (6 : Int32)), .val (.int (4 : Int32)), .val (.int (2 : Int32)), .val (.int (1 : Int32))] []))
    refine Go.st (fun _ => XS.iload X0.here C.hx rfl (hb C.hby d4_38) rfl) ?_
    show Go p e below s n0 _ _ _ (T0.setTop (mkF m 40 #[.val (.ref a1), .val (.int (6 : Int32)), .val (.int (4 : Int32)), .val (.int (2 : Int32)), .val (.int (1 : Int32))] [(.int (1 : Int32))]))
    refine Go.if_eq C X0 (pc' := 59) d4_40 (by decide) (by decide) (fun hc => absurd hc (by decide)) (fun _ => ?_)
    show Go p e below s n0 _ _ _ (T0.setTop (mkF m 43 #[.val (.ref a1), .val (.int (6 : Int32)), .val (.int (4 : Int32)), .val (.int (2 : Int32)), .val (.int (1 : Int32))] []))
    refine Go.st (fun _ => XS.aloadN X0.here C.hx rfl (hb C.hby d4_43) rfl rfl) ?_
    show Go p e below s n0 _ _ _ (T0.setTop (mkF m 44 #[.val (.ref a1), .val (.int (6 : Int32)), .val (.int (4 : Int32)), .val (.int (2 : Int32)), .val (.int (1 : Int32))] [(.ref a1)]))
    refine Go.st (fun _ => XS.iconst X0.here C.hx rfl (hb C.hby d4_44)) ?_
    show Go p e below s n0 _ _ _ (T0.setTop (mkF m 45 #[.val (.ref a1), .val (.int (6 : Int32)), .val (.int (4 : Int32)), .val (.int (2 : Int32)), .val (.int (1 : Int32))] [(.int (1 : Int32)), (.ref a1)]))
    refine Go.laload C X0 A1 (by decide) (getL (i := 1) hs (by decide)) d4_45 ?_
    show Go p e below s n0 _ _ _ (T0.setTop (mkF m 46 #[.val (.ref a1), .val (.int (6 : Int32)), .val (.int (4 : Int32)), .val (.int (2 : Int32)), .val (.int (1 : Int32))] [(.long (el sl 1))]))
    refine Go.st (fun _ => XS.aloadN X0.here C.hx rfl (hb C.hby d4_46) rfl rfl) ?_
    show Go p e below s n0 _ _ _ (T0.setTop (mkF m 47 #[.val (.ref a1), .val (.int (6 : Int32)), .val (.int (4 : Int32)), .val (.int (2 : Int32)), .val (.int (1 : Int32))] [(.ref a1), (.long (el sl 1))]))
    refine Go.st (fun _ => XS.iloadN X0.here C.hx rfl (hb C.hby d4_47) rfl) ?_
    show Go p e below s n0 _ _ _ (T0.setTop (mkF m 48 #[.val (.ref a1), .val (.int (6 : Int32)), .val (.int (4 : Int32)), .val (.int (2 : Int32)), .val (.int (1 : Int32))] [(.int (2 : Int32)), (.ref a1), (.long (el sl 1))]))
    refine Go.st (fun _ => XS.iconst X0.here C.hx rfl (hb C.hby d4_48)) ?_
    show Go p e below s n0 _ _ _ (T0.setTop (mkF m 49 #[.val (.ref a1), .val (.int (6 : Int32)), .val (.int (4 : Int32)), .val (.int (2 : Int32)), .val (.int (1 : Int32))] [(.int (1 : Int32)), (.int (2 : Int32)), (.ref a1), (.long (el sl 1))]))
    refine Go.st (fun _ => XS.iadd X0.here C.hx rfl (hb C.hby d4_49) rfl) ?_
    show Go p e below s n0 _ _ _ (T0.setTop (mkF m 50 #[.val (.ref a1), .val (.int (6 : Int32)), .val (.int (4 : Int32)), .val (.int (2 : Int32)), .val (.int (1 : Int32))] [(.int (3 : Int32)), (.ref a1), (.long (el sl 1))]))
    refine Go.laload C X0 A1 (by decide) (getL (i := 3) hs (by decide)) d4_50 ?_
    show Go p e below s n0 _ _ _ (T0.setTop (mkF m 51 #[.val (.ref a1), .val (.int (6 : Int32)), .val (.int (4 : Int32)), .val (.int (2 : Int32)), .val (.int (1 : Int32))] [(.long (el sl 3)), (.long (el sl 1))]))
    refine Go.st (fun _ => XS.lcmp X0.here C.hx rfl (hb C.hby d4_51) rfl) ?_
    show Go p e below s n0 _ _ _ (T0.setTop (mkF m 52 #[.val (.ref a1), .val (.int (6 : Int32)), .val (.int (4 : Int32)), .val (.int (2 : Int32)), .val (.int (1 : Int32))] [(.int (lcmpW (el sl 1) (el sl 3)))]))
    refine Go.lif_ne C X0 (pc' := 59) d4_52 (by decide) (by decide) (fun hc52_345 => ?_) (fun hc52_345 => ?_)
    · show Go p e below s n0 _ _ _ (T0.setTop (mkF m 59 #[.val (.ref a1), .val (.int (6 : Int32)), .val (.int (4 : Int32)), .val (.int (2 : Int32)), .val (.int (1 : Int32))] []))
      refine Go.st (fun _ => XS.iconst X0.here C.hx rfl (hb C.hby d4_59)) ?_
      show Go p e below s n0 _ _ _ (T0.setTop (mkF m 60 #[.val (.ref a1), .val (.int (6 : Int32)), .val (.int (4 : Int32)), .val (.int (2 : Int32)), .val (.int (1 : Int32))] [(.int (0 : Int32))]))
      refine Go.st (fun _ => XS.istore X0.here C.hx rfl (hb C.hby d4_60) rfl (l' := #[.val (.ref a1), .val (.int (6 : Int32)), .val (.int (4 : Int32)), .val (.int (2 : Int32)), .val (.int (0 : Int32))]) rfl) ?_
      show Go p e below s n0 _ _ _ (T0.setTop (mkF m 62 #[.val (.ref a1), .val (.int (6 : Int32)), .val (.int (4 : Int32)), .val (.int (2 : Int32)), .val (.int (0 : Int32))] []))
      refine Go.st (fun _ => XS.iloadN X0.here C.hx rfl (hb C.hby d4_62) rfl) ?_
      show Go p e below s n0 _ _ _ (T0.setTop (mkF m 63 #[.val (.ref a1), .val (.int (6 : Int32)), .val (.int (4 : Int32)), .val (.int (2 : Int32)), .val (.int (0 : Int32))] [(.int (4 : Int32))]))
      refine Go.st (fun _ => XS.iconst X0.here C.hx rfl (hb C.hby d4_63)) ?_
      show Go p e below s n0 _ _ _ (T0.setTop (mkF m 64 #[.val (.ref a1), .val (.int (6 : Int32)), .val (.int (4 : Int32)), .val (.int (2 : Int32)), .val (.int (0 : Int32))] [(.int (2 : Int32)), (.int (4 : Int32))]))
      refine Go.icmp_le C X0 (pc' := 91) d4_64 (by decide) (by decide) (fun hc => absurd hc (by decide)) (fun _ => ?_)
      show Go p e below s n0 _ _ _ (T0.setTop (mkF m 67 #[.val (.ref a1), .val (.int (6 : Int32)), .val (.int (4 : Int32)), .val (.int (2 : Int32)), .val (.int (0 : Int32))] []))
      refine Go.st (fun _ => XS.iload X0.here C.hx rfl (hb C.hby d4_67) rfl) ?_
      show Go p e below s n0 _ _ _ (T0.setTop (mkF m 69 #[.val (.ref a1), .val (.int (6 : Int32)), .val (.int (4 : Int32)), .val (.int (2 : Int32)), .val (.int (0 : Int32))] [(.int (0 : Int32))]))
      refine Go.if_eq C X0 (pc' := 88) d4_69 (by decide) (by decide) (fun _ => ?_) (fun hc => absurd hc (by decide))
      show Go p e below s n0 _ _ _ (T0.setTop (mkF m 88 #[.val (.ref a1), .val (.int (6 : Int32)), .val (.int (4 : Int32)), .val (.int (2 : Int32)), .val (.int (0 : Int32))] []))
      refine Go.st (fun _ => XS.iconst X0.here C.hx rfl (hb C.hby d4_88)) ?_
      show Go p e below s n0 _ _ _ (T0.setTop (mkF m 89 #[.val (.ref a1), .val (.int (6 : Int32)), .val (.int (4 : Int32)), .val (.int (2 : Int32)), .val (.int (0 : Int32))] [(.int (0 : Int32))]))
      refine Go.st (fun _ => XS.istore X0.here C.hx rfl (hb C.hby d4_89) rfl (l' := #[.val (.ref a1), .val (.int (6 : Int32)), .val (.int (4 : Int32)), .val (.int (2 : Int32)), .val (.int (0 : Int32))]) rfl) ?_
      show Go p e below s n0 _ _ _ (T0.setTop (mkF m 91 #[.val (.ref a1), .val (.int (6 : Int32)), .val (.int (4 : Int32)), .val (.int (2 : Int32)), .val (.int (0 : Int32))] []))
      refine Go.st (fun _ => XS.iloadN X0.here C.hx rfl (hb C.hby d4_91) rfl) ?_
      show Go p e below s n0 _ _ _ (T0.setTop (mkF m 92 #[.val (.ref a1), .val (.int (6 : Int32)), .val (.int (4 : Int32)), .val (.int (2 : Int32)), .val (.int (0 : Int32))] [(.int (4 : Int32))]))
      refine Go.st (fun _ => XS.iconst X0.here C.hx rfl (hb C.hby d4_92)) ?_
      show Go p e below s n0 _ _ _ (T0.setTop (mkF m 93 #[.val (.ref a1), .val (.int (6 : Int32)), .val (.int (4 : Int32)), .val (.int (2 : Int32)), .val (.int (0 : Int32))] [(.int (3 : Int32)), (.int (4 : Int32))]))
      refine Go.icmp_le C X0 (pc' := 120) d4_93 (by decide) (by decide) (fun hc => absurd hc (by decide)) (fun _ => ?_)
      show Go p e below s n0 _ _ _ (T0.setTop (mkF m 96 #[.val (.ref a1), .val (.int (6 : Int32)), .val (.int (4 : Int32)), .val (.int (2 : Int32)), .val (.int (0 : Int32))] []))
      refine Go.st (fun _ => XS.iload X0.here C.hx rfl (hb C.hby d4_96) rfl) ?_
      show Go p e below s n0 _ _ _ (T0.setTop (mkF m 98 #[.val (.ref a1), .val (.int (6 : Int32)), .val (.int (4 : Int32)), .val (.int (2 : Int32)), .val (.int (0 : Int32))] [(.int (0 : Int32))]))
      refine Go.if_eq C X0 (pc' := 117) d4_98 (by decide) (by decide) (fun _ => ?_) (fun hc => absurd hc (by decide))
      show Go p e below s n0 _ _ _ (T0.setTop (mkF m 117 #[.val (.ref a1), .val (.int (6 : Int32)), .val (.int (4 : Int32)), .val (.int (2 : Int32)), .val (.int (0 : Int32))] []))
      refine Go.st (fun _ => XS.iconst X0.here C.hx rfl (hb C.hby d4_117)) ?_
      show Go p e below s n0 _ _ _ (T0.setTop (mkF m 118 #[.val (.ref a1), .val (.int (6 : Int32)), .val (.int (4 : Int32)), .val (.int (2 : Int32)), .val (.int (0 : Int32))] [(.int (0 : Int32))]))
      refine Go.st (fun _ => XS.istore X0.here C.hx rfl (hb C.hby d4_118) rfl (l' := #[.val (.ref a1), .val (.int (6 : Int32)), .val (.int (4 : Int32)), .val (.int (2 : Int32)), .val (.int (0 : Int32))]) rfl) ?_
      show Go p e below s n0 _ _ _ (T0.setTop (mkF m 120 #[.val (.ref a1), .val (.int (6 : Int32)), .val (.int (4 : Int32)), .val (.int (2 : Int32)), .val (.int (0 : Int32))] []))
      refine Go.st (fun _ => XS.iloadN X0.here C.hx rfl (hb C.hby d4_120) rfl) ?_
      show Go p e below s n0 _ _ _ (T0.setTop (mkF m 121 #[.val (.ref a1), .val (.int (6 : Int32)), .val (.int (4 : Int32)), .val (.int (2 : Int32)), .val (.int (0 : Int32))] [(.int (4 : Int32))]))
      refine Go.st (fun _ => XS.iconst X0.here C.hx rfl (hb C.hby d4_121)) ?_
      show Go p e below s n0 _ _ _ (T0.setTop (mkF m 122 #[.val (.ref a1), .val (.int (6 : Int32)), .val (.int (4 : Int32)), .val (.int (2 : Int32)), .val (.int (0 : Int32))] [(.int (4 : Int32)), (.int (4 : Int32))]))
      refine Go.icmp_le C X0 (pc' := 149) d4_122 (by decide) (by decide) (fun _ => ?_) (fun hc => absurd hc (by decide))
      show Go p e below s n0 _ _ _ (T0.setTop (mkF m 149 #[.val (.ref a1), .val (.int (6 : Int32)), .val (.int (4 : Int32)), .val (.int (2 : Int32)), .val (.int (0 : Int32))] []))
      refine Go.st (fun _ => XS.iload X0.here C.hx rfl (hb C.hby d4_149) rfl) ?_
      show Go p e below s n0 _ _ _ (T0.setTop (mkF m 151 #[.val (.ref a1), .val (.int (6 : Int32)), .val (.int (4 : Int32)), .val (.int (2 : Int32)), .val (.int (0 : Int32))] [(.int (0 : Int32))]))
      exact Go.retZ C X0 (by decide) d4_151 ⟨by simp [b2i, sameE, Esl, List.range_succ, hc23_335, hc52_345], rfl⟩ (by decide) (by decide)
    · show Go p e below s n0 _ _ _ (T0.setTop (mkF m 55 #[.val (.ref a1), .val (.int (6 : Int32)), .val (.int (4 : Int32)), .val (.int (2 : Int32)), .val (.int (1 : Int32))] []))
      refine Go.st (fun _ => XS.iconst X0.here C.hx rfl (hb C.hby d4_55)) ?_
      show Go p e below s n0 _ _ _ (T0.setTop (mkF m 56 #[.val (.ref a1), .val (.int (6 : Int32)), .val (.int (4 : Int32)), .val (.int (2 : Int32)), .val (.int (1 : Int32))] [(.int (1 : Int32))]))
      refine Go.st (fun _ => XS.goto X0.here C.hx rfl (pc0 := 56) (pc' := 60) rfl (hb C.hby d4_56) (by decide) (by decide)) ?_
      show Go p e below s n0 _ _ _ (T0.setTop (mkF m 60 #[.val (.ref a1), .val (.int (6 : Int32)), .val (.int (4 : Int32)), .val (.int (2 : Int32)), .val (.int (1 : Int32))] [(.int (1 : Int32))]))
      refine Go.st (fun _ => XS.istore X0.here C.hx rfl (hb C.hby d4_60) rfl (l' := #[.val (.ref a1), .val (.int (6 : Int32)), .val (.int (4 : Int32)), .val (.int (2 : Int32)), .val (.int (1 : Int32))]) rfl) ?_
      show Go p e below s n0 _ _ _ (T0.setTop (mkF m 62 #[.val (.ref a1), .val (.int (6 : Int32)), .val (.int (4 : Int32)), .val (.int (2 : Int32)), .val (.int (1 : Int32))] []))
      refine Go.st (fun _ => XS.iloadN X0.here C.hx rfl (hb C.hby d4_62) rfl) ?_
      show Go p e below s n0 _ _ _ (T0.setTop (mkF m 63 #[.val (.ref a1), .val (.int (6 : Int32)), .val (.int (4 : Int32)), .val (.int (2 : Int32)), .val (.int (1 : Int32))] [(.int (4 : Int32))]))
      refine Go.st (fun _ => XS.iconst X0.here C.hx rfl (hb C.hby d4_63)) ?_
      show Go p e below s n0 _ _ _ (T0.setTop (mkF m 64 #[.val (.ref a1), .val (.int (6 : Int32)), .val (.int (4 : Int32)), .val (.int (2 : Int32)), .val (.int (1 : Int32))] [(.int (2 : Int32)), (.int (4 : Int32))]))
      refine Go.icmp_le C X0 (pc' := 91) d4_64 (by decide) (by decide) (fun hc => absurd hc (by decide)) (fun _ => ?_)
      show Go p e below s n0 _ _ _ (T0.setTop (mkF m 67 #[.val (.ref a1), .val (.int (6 : Int32)), .val (.int (4 : Int32)), .val (.int (2 : Int32)), .val (.int (1 : Int32))] []))
      refine Go.st (fun _ => XS.iload X0.here C.hx rfl (hb C.hby d4_67) rfl) ?_
      show Go p e below s n0 _ _ _ (T0.setTop (mkF m 69 #[.val (.ref a1), .val (.int (6 : Int32)), .val (.int (4 : Int32)), .val (.int (2 : Int32)), .val (.int (1 : Int32))] [(.int (1 : Int32))]))
      refine Go.if_eq C X0 (pc' := 88) d4_69 (by decide) (by decide) (fun hc => absurd hc (by decide)) (fun _ => ?_)
      show Go p e below s n0 _ _ _ (T0.setTop (mkF m 72 #[.val (.ref a1), .val (.int (6 : Int32)), .val (.int (4 : Int32)), .val (.int (2 : Int32)), .val (.int (1 : Int32))] []))
      refine Go.st (fun _ => XS.aloadN X0.here C.hx rfl (hb C.hby d4_72) rfl rfl) ?_
      show Go p e below s n0 _ _ _ (T0.setTop (mkF m 73 #[.val (.ref a1), .val (.int (6 : Int32)), .val (.int (4 : Int32)), .val (.int (2 : Int32)), .val (.int (1 : Int32))] [(.ref a1)]))
      refine Go.st (fun _ => XS.iconst X0.here C.hx rfl (hb C.hby d4_73)) ?_
      show Go p e below s n0 _ _ _ (T0.setTop (mkF m 74 #[.val (.ref a1), .val (.int (6 : Int32)), .val (.int (4 : Int32)), .val (.int (2 : Int32)), .val (.int (1 : Int32))] [(.int (2 : Int32)), (.ref a1)]))
      refine Go.laload C X0 A1 (by decide) (getL (i := 2) hs (by decide)) d4_74 ?_
      show Go p e below s n0 _ _ _ (T0.setTop (mkF m 75 #[.val (.ref a1), .val (.int (6 : Int32)), .val (.int (4 : Int32)), .val (.int (2 : Int32)), .val (.int (1 : Int32))] [(.long (el sl 2))]))
      refine Go.st (fun _ => XS.aloadN X0.here C.hx rfl (hb C.hby d4_75) rfl rfl) ?_
      show Go p e below s n0 _ _ _ (T0.setTop (mkF m 76 #[.val (.ref a1), .val (.int (6 : Int32)), .val (.int (4 : Int32)), .val (.int (2 : Int32)), .val (.int (1 : Int32))] [(.ref a1), (.long (el sl 2))]))
      refine Go.st (fun _ => XS.iloadN X0.here C.hx rfl (hb C.hby d4_76) rfl) ?_
      show Go p e below s n0 _ _ _ (T0.setTop (mkF m 77 #[.val (.ref a1), .val (.int (6 : Int32)), .val (.int (4 : Int32)), .val (.int (2 : Int32)), .val (.int (1 : Int32))] [(.int (2 : Int32)), (.ref a1), (.long (el sl 2))]))
      refine Go.st (fun _ => XS.iconst X0.here C.hx rfl (hb C.hby d4_77)) ?_
      show Go p e below s n0 _ _ _ (T0.setTop (mkF m 78 #[.val (.ref a1), .val (.int (6 : Int32)), .val (.int (4 : Int32)), .val (.int (2 : Int32)), .val (.int (1 : Int32))] [(.int (2 : Int32)), (.int (2 : Int32)), (.ref a1), (.long (el sl 2))]))
      refine Go.st (fun _ => XS.iadd X0.here C.hx rfl (hb C.hby d4_78) rfl) ?_
      show Go p e below s n0 _ _ _ (T0.setTop (mkF m 79 #[.val (.ref a1), .val (.int (6 : Int32)), .val (.int (4 : Int32)), .val (.int (2 : Int32)), .val (.int (1 : Int32))] [(.int (4 : Int32)), (.ref a1), (.long (el sl 2))]))
      refine Go.laload C X0 A1 (by decide) (getL (i := 4) hs (by decide)) d4_79 ?_
      show Go p e below s n0 _ _ _ (T0.setTop (mkF m 80 #[.val (.ref a1), .val (.int (6 : Int32)), .val (.int (4 : Int32)), .val (.int (2 : Int32)), .val (.int (1 : Int32))] [(.long (el sl 4)), (.long (el sl 2))]))
      refine Go.st (fun _ => XS.lcmp X0.here C.hx rfl (hb C.hby d4_80) rfl) ?_
      show Go p e below s n0 _ _ _ (T0.setTop (mkF m 81 #[.val (.ref a1), .val (.int (6 : Int32)), .val (.int (4 : Int32)), .val (.int (2 : Int32)), .val (.int (1 : Int32))] [(.int (lcmpW (el sl 2) (el sl 4)))]))
      refine Go.lif_ne C X0 (pc' := 88) d4_81 (by decide) (by decide) (fun hc81_353 => ?_) (fun hc81_353 => ?_)
      · show Go p e below s n0 _ _ _ (T0.setTop (mkF m 88 #[.val (.ref a1), .val (.int (6 : Int32)), .val (.int (4 : Int32)), .val (.int (2 : Int32)), .val (.int (1 : Int32))] []))
        refine Go.st (fun _ => XS.iconst X0.here C.hx rfl (hb C.hby d4_88)) ?_
        show Go p e below s n0 _ _ _ (T0.setTop (mkF m 89 #[.val (.ref a1), .val (.int (6 : Int32)), .val (.int (4 : Int32)), .val (.int (2 : Int32)), .val (.int (1 : Int32))] [(.int (0 : Int32))]))
        refine Go.st (fun _ => XS.istore X0.here C.hx rfl (hb C.hby d4_89) rfl (l' := #[.val (.ref a1), .val (.int (6 : Int32)), .val (.int (4 : Int32)), .val (.int (2 : Int32)), .val (.int (0 : Int32))]) rfl) ?_
        show Go p e below s n0 _ _ _ (T0.setTop (mkF m 91 #[.val (.ref a1), .val (.int (6 : Int32)), .val (.int (4 : Int32)), .val (.int (2 : Int32)), .val (.int (0 : Int32))] []))
        refine Go.st (fun _ => XS.iloadN X0.here C.hx rfl (hb C.hby d4_91) rfl) ?_
        show Go p e below s n0 _ _ _ (T0.setTop (mkF m 92 #[.val (.ref a1), .val (.int (6 : Int32)), .val (.int (4 : Int32)), .val (.int (2 : Int32)), .val (.int (0 : Int32))] [(.int (4 : Int32))]))
        refine Go.st (fun _ => XS.iconst X0.here C.hx rfl (hb C.hby d4_92)) ?_
        show Go p e below s n0 _ _ _ (T0.setTop (mkF m 93 #[.val (.ref a1), .val (.int (6 : Int32)), .val (.int (4 : Int32)), .val (.int (2 : Int32)), .val (.int (0 : Int32))] [(.int (3 : Int32)), (.int (4 : Int32))]))
        refine Go.icmp_le C X0 (pc' := 120) d4_93 (by decide) (by decide) (fun hc => absurd hc (by decide)) (fun _ => ?_)
        show Go p e below s n0 _ _ _ (T0.setTop (mkF m 96 #[.val (.ref a1), .val (.int (6 : Int32)), .val (.int (4 : Int32)), .val (.int (2 : Int32)), .val (.int (0 : Int32))] []))
        refine Go.st (fun _ => XS.iload X0.here C.hx rfl (hb C.hby d4_96) rfl) ?_
        show Go p e below s n0 _ _ _ (T0.setTop (mkF m 98 #[.val (.ref a1), .val (.int (6 : Int32)), .val (.int (4 : Int32)), .val (.int (2 : Int32)), .val (.int (0 : Int32))] [(.int (0 : Int32))]))
        refine Go.if_eq C X0 (pc' := 117) d4_98 (by decide) (by decide) (fun _ => ?_) (fun hc => absurd hc (by decide))
        show Go p e below s n0 _ _ _ (T0.setTop (mkF m 117 #[.val (.ref a1), .val (.int (6 : Int32)), .val (.int (4 : Int32)), .val (.int (2 : Int32)), .val (.int (0 : Int32))] []))
        refine Go.st (fun _ => XS.iconst X0.here C.hx rfl (hb C.hby d4_117)) ?_
        show Go p e below s n0 _ _ _ (T0.setTop (mkF m 118 #[.val (.ref a1), .val (.int (6 : Int32)), .val (.int (4 : Int32)), .val (.int (2 : Int32)), .val (.int (0 : Int32))] [(.int (0 : Int32))]))
        refine Go.st (fun _ => XS.istore X0.here C.hx rfl (hb C.hby d4_118) rfl (l' := #[.val (.ref a1), .val (.int (6 : Int32)), .val (.int (4 : Int32)), .val (.int (2 : Int32)), .val (.int (0 : Int32))]) rfl) ?_
        show Go p e below s n0 _ _ _ (T0.setTop (mkF m 120 #[.val (.ref a1), .val (.int (6 : Int32)), .val (.int (4 : Int32)), .val (.int (2 : Int32)), .val (.int (0 : Int32))] []))
        refine Go.st (fun _ => XS.iloadN X0.here C.hx rfl (hb C.hby d4_120) rfl) ?_
        show Go p e below s n0 _ _ _ (T0.setTop (mkF m 121 #[.val (.ref a1), .val (.int (6 : Int32)), .val (.int (4 : Int32)), .val (.int (2 : Int32)), .val (.int (0 : Int32))] [(.int (4 : Int32))]))
        refine Go.st (fun _ => XS.iconst X0.here C.hx rfl (hb C.hby d4_121)) ?_
        show Go p e below s n0 _ _ _ (T0.setTop (mkF m 122 #[.val (.ref a1), .val (.int (6 : Int32)), .val (.int (4 : Int32)), .val (.int (2 : Int32)), .val (.int (0 : Int32))] [(.int (4 : Int32)), (.int (4 : Int32))]))
        refine Go.icmp_le C X0 (pc' := 149) d4_122 (by decide) (by decide) (fun _ => ?_) (fun hc => absurd hc (by decide))
        show Go p e below s n0 _ _ _ (T0.setTop (mkF m 149 #[.val (.ref a1), .val (.int (6 : Int32)), .val (.int (4 : Int32)), .val (.int (2 : Int32)), .val (.int (0 : Int32))] []))
        refine Go.st (fun _ => XS.iload X0.here C.hx rfl (hb C.hby d4_149) rfl) ?_
        show Go p e below s n0 _ _ _ (T0.setTop (mkF m 151 #[.val (.ref a1), .val (.int (6 : Int32)), .val (.int (4 : Int32)), .val (.int (2 : Int32)), .val (.int (0 : Int32))] [(.int (0 : Int32))]))
        exact Go.retZ C X0 (by decide) d4_151 ⟨by simp [b2i, sameE, Esl, List.range_succ, hc23_335, hc52_345, hc81_353], rfl⟩ (by decide) (by decide)
      · show Go p e below s n0 _ _ _ (T0.setTop (mkF m 84 #[.val (.ref a1), .val (.int (6 : Int32)), .val (.int (4 : Int32)), .val (.int (2 : Int32)), .val (.int (1 : Int32))] []))
        refine Go.st (fun _ => XS.iconst X0.here C.hx rfl (hb C.hby d4_84)) ?_
        show Go p e below s n0 _ _ _ (T0.setTop (mkF m 85 #[.val (.ref a1), .val (.int (6 : Int32)), .val (.int (4 : Int32)), .val (.int (2 : Int32)), .val (.int (1 : Int32))] [(.int (1 : Int32))]))
        refine Go.st (fun _ => XS.goto X0.here C.hx rfl (pc0 := 85) (pc' := 89) rfl (hb C.hby d4_85) (by decide) (by decide)) ?_
        show Go p e below s n0 _ _ _ (T0.setTop (mkF m 89 #[.val (.ref a1), .val (.int (6 : Int32)), .val (.int (4 : Int32)), .val (.int (2 : Int32)), .val (.int (1 : Int32))] [(.int (1 : Int32))]))
        refine Go.st (fun _ => XS.istore X0.here C.hx rfl (hb C.hby d4_89) rfl (l' := #[.val (.ref a1), .val (.int (6 : Int32)), .val (.int (4 : Int32)), .val (.int (2 : Int32)), .val (.int (1 : Int32))]) rfl) ?_
        show Go p e below s n0 _ _ _ (T0.setTop (mkF m 91 #[.val (.ref a1), .val (.int (6 : Int32)), .val (.int (4 : Int32)), .val (.int (2 : Int32)), .val (.int (1 : Int32))] []))
        refine Go.st (fun _ => XS.iloadN X0.here C.hx rfl (hb C.hby d4_91) rfl) ?_
        show Go p e below s n0 _ _ _ (T0.setTop (mkF m 92 #[.val (.ref a1), .val (.int (6 : Int32)), .val (.int (4 : Int32)), .val (.int (2 : Int32)), .val (.int (1 : Int32))] [(.int (4 : Int32))]))
        refine Go.st (fun _ => XS.iconst X0.here C.hx rfl (hb C.hby d4_92)) ?_
        show Go p e below s n0 _ _ _ (T0.setTop (mkF m 93 #[.val (.ref a1), .val (.int (6 : Int32)), .val (.int (4 : Int32)), .val (.int (2 : Int32)), .val (.int (1 : Int32))] [(.int (3 : Int32)), (.int (4 : Int32))]))
        refine Go.icmp_le C X0 (pc' := 120) d4_93 (by decide) (by decide) (fun hc => absurd hc (by decide)) (fun _ => ?_)
        show Go p e below s n0 _ _ _ (T0.setTop (mkF m 96 #[.val (.ref a1), .val (.int (6 : Int32)), .val (.int (4 : Int32)), .val (.int (2 : Int32)), .val (.int (1 : Int32))] []))
        refine Go.st (fun _ => XS.iload X0.here C.hx rfl (hb C.hby d4_96) rfl) ?_
        show Go p e below s n0 _ _ _ (T0.setTop (mkF m 98 #[.val (.ref a1), .val (.int (6 : Int32)), .val (.int (4 : Int32)), .val (.int (2 : Int32)), .val (.int (1 : Int32))] [(.int (1 : Int32))]))
        refine Go.if_eq C X0 (pc' := 117) d4_98 (by decide) (by decide) (fun hc => absurd hc (by decide)) (fun _ => ?_)
        show Go p e below s n0 _ _ _ (T0.setTop (mkF m 101 #[.val (.ref a1), .val (.int (6 : Int32)), .val (.int (4 : Int32)), .val (.int (2 : Int32)), .val (.int (1 : Int32))] []))
        refine Go.st (fun _ => XS.aloadN X0.here C.hx rfl (hb C.hby d4_101) rfl rfl) ?_
        show Go p e below s n0 _ _ _ (T0.setTop (mkF m 102 #[.val (.ref a1), .val (.int (6 : Int32)), .val (.int (4 : Int32)), .val (.int (2 : Int32)), .val (.int (1 : Int32))] [(.ref a1)]))
        refine Go.st (fun _ => XS.iconst X0.here C.hx rfl (hb C.hby d4_102)) ?_
        show Go p e below s n0 _ _ _ (T0.setTop (mkF m 103 #[.val (.ref a1), .val (.int (6 : Int32)), .val (.int (4 : Int32)), .val (.int (2 : Int32)), .val (.int (1 : Int32))] [(.int (3 : Int32)), (.ref a1)]))
        refine Go.laload C X0 A1 (by decide) (getL (i := 3) hs (by decide)) d4_103 ?_
        show Go p e below s n0 _ _ _ (T0.setTop (mkF m 104 #[.val (.ref a1), .val (.int (6 : Int32)), .val (.int (4 : Int32)), .val (.int (2 : Int32)), .val (.int (1 : Int32))] [(.long (el sl 3))]))
        refine Go.st (fun _ => XS.aloadN X0.here C.hx rfl (hb C.hby d4_104) rfl rfl) ?_
        show Go p e below s n0 _ _ _ (T0.setTop (mkF m 105 #[.val (.ref a1), .val (.int (6 : Int32)), .val (.int (4 : Int32)), .val (.int (2 : Int32)), .val (.int (1 : Int32))] [(.ref a1), (.long (el sl 3))]))
        refine Go.st (fun _ => XS.iloadN X0.here C.hx rfl (hb C.hby d4_105) rfl) ?_
        show Go p e below s n0 _ _ _ (T0.setTop (mkF m 106 #[.val (.ref a1), .val (.int (6 : Int32)), .val (.int (4 : Int32)), .val (.int (2 : Int32)), .val (.int (1 : Int32))] [(.int (2 : Int32)), (.ref a1), (.long (el sl 3))]))
        refine Go.st (fun _ => XS.iconst X0.here C.hx rfl (hb C.hby d4_106)) ?_
        show Go p e below s n0 _ _ _ (T0.setTop (mkF m 107 #[.val (.ref a1), .val (.int (6 : Int32)), .val (.int (4 : Int32)), .val (.int (2 : Int32)), .val (.int (1 : Int32))] [(.int (3 : Int32)), (.int (2 : Int32)), (.ref a1), (.long (el sl 3))]))
        refine Go.st (fun _ => XS.iadd X0.here C.hx rfl (hb C.hby d4_107) rfl) ?_
        show Go p e below s n0 _ _ _ (T0.setTop (mkF m 108 #[.val (.ref a1), .val (.int (6 : Int32)), .val (.int (4 : Int32)), .val (.int (2 : Int32)), .val (.int (1 : Int32))] [(.int (5 : Int32)), (.ref a1), (.long (el sl 3))]))
        refine Go.laload C X0 A1 (by decide) (getL (i := 5) hs (by decide)) d4_108 ?_
        show Go p e below s n0 _ _ _ (T0.setTop (mkF m 109 #[.val (.ref a1), .val (.int (6 : Int32)), .val (.int (4 : Int32)), .val (.int (2 : Int32)), .val (.int (1 : Int32))] [(.long (el sl 5)), (.long (el sl 3))]))
        refine Go.st (fun _ => XS.lcmp X0.here C.hx rfl (hb C.hby d4_109) rfl) ?_
        show Go p e below s n0 _ _ _ (T0.setTop (mkF m 110 #[.val (.ref a1), .val (.int (6 : Int32)), .val (.int (4 : Int32)), .val (.int (2 : Int32)), .val (.int (1 : Int32))] [(.int (lcmpW (el sl 3) (el sl 5)))]))
        refine Go.lif_ne C X0 (pc' := 117) d4_110 (by decide) (by decide) (fun hc110_359 => ?_) (fun hc110_359 => ?_)
        · show Go p e below s n0 _ _ _ (T0.setTop (mkF m 117 #[.val (.ref a1), .val (.int (6 : Int32)), .val (.int (4 : Int32)), .val (.int (2 : Int32)), .val (.int (1 : Int32))] []))
          refine Go.st (fun _ => XS.iconst X0.here C.hx rfl (hb C.hby d4_117)) ?_
          show Go p e below s n0 _ _ _ (T0.setTop (mkF m 118 #[.val (.ref a1), .val (.int (6 : Int32)), .val (.int (4 : Int32)), .val (.int (2 : Int32)), .val (.int (1 : Int32))] [(.int (0 : Int32))]))
          refine Go.st (fun _ => XS.istore X0.here C.hx rfl (hb C.hby d4_118) rfl (l' := #[.val (.ref a1), .val (.int (6 : Int32)), .val (.int (4 : Int32)), .val (.int (2 : Int32)), .val (.int (0 : Int32))]) rfl) ?_
          show Go p e below s n0 _ _ _ (T0.setTop (mkF m 120 #[.val (.ref a1), .val (.int (6 : Int32)), .val (.int (4 : Int32)), .val (.int (2 : Int32)), .val (.int (0 : Int32))] []))
          refine Go.st (fun _ => XS.iloadN X0.here C.hx rfl (hb C.hby d4_120) rfl) ?_
          show Go p e below s n0 _ _ _ (T0.setTop (mkF m 121 #[.val (.ref a1), .val (.int (6 : Int32)), .val (.int (4 : Int32)), .val (.int (2 : Int32)), .val (.int (0 : Int32))] [(.int (4 : Int32))]))
          refine Go.st (fun _ => XS.iconst X0.here C.hx rfl (hb C.hby d4_121)) ?_
          show Go p e below s n0 _ _ _ (T0.setTop (mkF m 122 #[.val (.ref a1), .val (.int (6 : Int32)), .val (.int (4 : Int32)), .val (.int (2 : Int32)), .val (.int (0 : Int32))] [(.int (4 : Int32)), (.int (4 : Int32))]))
          refine Go.icmp_le C X0 (pc' := 149) d4_122 (by decide) (by decide) (fun _ => ?_) (fun hc => absurd hc (by decide))
          show Go p e below s n0 _ _ _ (T0.setTop (mkF m 149 #[.val (.ref a1), .val (.int (6 : Int32)), .val (.int (4 : Int32)), .val (.int (2 : Int32)), .val (.int (0 : Int32))] []))
          refine Go.st (fun _ => XS.iload X0.here C.hx rfl (hb C.hby d4_149) rfl) ?_
          show Go p e below s n0 _ _ _ (T0.setTop (mkF m 151 #[.val (.ref a1), .val (.int (6 : Int32)), .val (.int (4 : Int32)), .val (.int (2 : Int32)), .val (.int (0 : Int32))] [(.int (0 : Int32))]))
          exact Go.retZ C X0 (by decide) d4_151 ⟨by simp [b2i, sameE, Esl, List.range_succ, hc23_335, hc52_345, hc81_353, hc110_359], rfl⟩ (by decide) (by decide)
        · show Go p e below s n0 _ _ _ (T0.setTop (mkF m 113 #[.val (.ref a1), .val (.int (6 : Int32)), .val (.int (4 : Int32)), .val (.int (2 : Int32)), .val (.int (1 : Int32))] []))
          refine Go.st (fun _ => XS.iconst X0.here C.hx rfl (hb C.hby d4_113)) ?_
          show Go p e below s n0 _ _ _ (T0.setTop (mkF m 114 #[.val (.ref a1), .val (.int (6 : Int32)), .val (.int (4 : Int32)), .val (.int (2 : Int32)), .val (.int (1 : Int32))] [(.int (1 : Int32))]))
          refine Go.st (fun _ => XS.goto X0.here C.hx rfl (pc0 := 114) (pc' := 118) rfl (hb C.hby d4_114) (by decide) (by decide)) ?_
          show Go p e below s n0 _ _ _ (T0.setTop (mkF m 118 #[.val (.ref a1), .val (.int (6 : Int32)), .val (.int (4 : Int32)), .val (.int (2 : Int32)), .val (.int (1 : Int32))] [(.int (1 : Int32))]))
          refine Go.st (fun _ => XS.istore X0.here C.hx rfl (hb C.hby d4_118) rfl (l' := #[.val (.ref a1), .val (.int (6 : Int32)), .val (.int (4 : Int32)), .val (.int (2 : Int32)), .val (.int (1 : Int32))]) rfl) ?_
          show Go p e below s n0 _ _ _ (T0.setTop (mkF m 120 #[.val (.ref a1), .val (.int (6 : Int32)), .val (.int (4 : Int32)), .val (.int (2 : Int32)), .val (.int (1 : Int32))] []))
          refine Go.st (fun _ => XS.iloadN X0.here C.hx rfl (hb C.hby d4_120) rfl) ?_
          show Go p e below s n0 _ _ _ (T0.setTop (mkF m 121 #[.val (.ref a1), .val (.int (6 : Int32)), .val (.int (4 : Int32)), .val (.int (2 : Int32)), .val (.int (1 : Int32))] [(.int (4 : Int32))]))
          refine Go.st (fun _ => XS.iconst X0.here C.hx rfl (hb C.hby d4_121)) ?_
          show Go p e below s n0 _ _ _ (T0.setTop (mkF m 122 #[.val (.ref a1), .val (.int (6 : Int32)), .val (.int (4 : Int32)), .val (.int (2 : Int32)), .val (.int (1 : Int32))] [(.int (4 : Int32)), (.int (4 : Int32))]))
          refine Go.icmp_le C X0 (pc' := 149) d4_122 (by decide) (by decide) (fun _ => ?_) (fun hc => absurd hc (by decide))
          show Go p e below s n0 _ _ _ (T0.setTop (mkF m 149 #[.val (.ref a1), .val (.int (6 : Int32)), .val (.int (4 : Int32)), .val (.int (2 : Int32)), .val (.int (1 : Int32))] []))
          refine Go.st (fun _ => XS.iload X0.here C.hx rfl (hb C.hby d4_149) rfl) ?_
          show Go p e below s n0 _ _ _ (T0.setTop (mkF m 151 #[.val (.ref a1), .val (.int (6 : Int32)), .val (.int (4 : Int32)), .val (.int (2 : Int32)), .val (.int (1 : Int32))] [(.int (1 : Int32))]))
          exact Go.retZ C X0 (by decide) d4_151 ⟨by simp [b2i, sameE, Esl, List.range_succ, hc23_335, hc52_345, hc81_353, hc110_359], rfl⟩ (by decide) (by decide)
set_option maxRecDepth 65536 in
set_option maxHeartbeats 40000000 in
theorem con_same_6_5 (l : Launch) (Z : State) (a0 : Array Value) (hw : ∀ d ∈ tables_1, d.before a0 Z = true) (n0 : Nat) (h0 : Heap) (Z0 : n0 ≤ h0.size) (a1 : Addr) (sl : List Int64) (hs : sl.length = 6) (A1 : AR Z h0 a1 .long (sl.map Value.long)) :
    Con l Z (⟨"com/example/orderly_ring/orderlyring/model/SequencesExtendBordersPinLaw", "same", "([JII)Z"⟩ : MethodName) method_3_code 5 (some .boolean) [] ({ frames := 0, cells := 0, slots := 0, locals := 0 } : Room) n0 #[(.ref a1), (.int (6 : Int32)), (.int (5 : Int32))] h0 (fun v h => v = some (.int (b2i (sameE (Esl sl) 6 5))) ∧ h = h0) := by
  refine Con.mk pf_4 hw Z0 ?_
  intro p e s m below meth c T0 C X0
  have ef : entryFrame m #[(.ref a1), (.int (6 : Int32)), (.int (5 : Int32))] 5 = mkF m 0 #[.val (.ref a1), .val (.int (6 : Int32)), .val (.int (5 : Int32)), .unset, .unset] [] := by first | (simp [entryFrame, mkF, argsToLocals, Value.category]; done) | rfl
  rw [ef]
  show Go p e below s n0 _ _ _ (T0.setTop (mkF m 0 #[.val (.ref a1), .val (.int (6 : Int32)), .val (.int (5 : Int32)), .unset, .unset] []))
  refine Go.st (fun _ => XS.iloadN X0.here C.hx rfl (hb C.hby d4_0) rfl) ?_
  show Go p e below s n0 _ _ _ (T0.setTop (mkF m 1 #[.val (.ref a1), .val (.int (6 : Int32)), .val (.int (5 : Int32)), .unset, .unset] [(.int (6 : Int32))]))
  refine Go.st (fun _ => XS.iloadN X0.here C.hx rfl (hb C.hby d4_1) rfl) ?_
  show Go p e below s n0 _ _ _ (T0.setTop (mkF m 2 #[.val (.ref a1), .val (.int (6 : Int32)), .val (.int (5 : Int32)), .unset, .unset] [(.int (5 : Int32)), (.int (6 : Int32))]))
  refine Go.st (fun _ => XS.isub X0.here C.hx rfl (hb C.hby d4_2) rfl) ?_
  show Go p e below s n0 _ _ _ (T0.setTop (mkF m 3 #[.val (.ref a1), .val (.int (6 : Int32)), .val (.int (5 : Int32)), .unset, .unset] [(.int (1 : Int32))]))
  refine Go.st (fun _ => XS.istoreN X0.here C.hx rfl (hb C.hby d4_3) rfl (l' := #[.val (.ref a1), .val (.int (6 : Int32)), .val (.int (5 : Int32)), .val (.int (1 : Int32)), .unset]) rfl) ?_
  show Go p e below s n0 _ _ _ (T0.setTop (mkF m 4 #[.val (.ref a1), .val (.int (6 : Int32)), .val (.int (5 : Int32)), .val (.int (1 : Int32)), .unset] []))
  refine Go.st (fun _ => XS.iconst X0.here C.hx rfl (hb C.hby d4_4)) ?_
  show Go p e below s n0 _ _ _ (T0.setTop (mkF m 5 #[.val (.ref a1), .val (.int (6 : Int32)), .val (.int (5 : Int32)), .val (.int (1 : Int32)), .unset] [(.int (1 : Int32))]))
  refine Go.st (fun _ => XS.istore X0.here C.hx rfl (hb C.hby d4_5) rfl (l' := #[.val (.ref a1), .val (.int (6 : Int32)), .val (.int (5 : Int32)), .val (.int (1 : Int32)), .val (.int (1 : Int32))]) rfl) ?_
  show Go p e below s n0 _ _ _ (T0.setTop (mkF m 7 #[.val (.ref a1), .val (.int (6 : Int32)), .val (.int (5 : Int32)), .val (.int (1 : Int32)), .val (.int (1 : Int32))] []))
  refine Go.st (fun _ => XS.iloadN X0.here C.hx rfl (hb C.hby d4_7) rfl) ?_
  show Go p e below s n0 _ _ _ (T0.setTop (mkF m 8 #[.val (.ref a1), .val (.int (6 : Int32)), .val (.int (5 : Int32)), .val (.int (1 : Int32)), .val (.int (1 : Int32))] [(.int (5 : Int32))]))
  refine Go.if_le C X0 (pc' := 33) d4_8 (by decide) (by decide) (fun hc => absurd hc (by decide)) (fun _ => ?_)
  show Go p e below s n0 _ _ _ (T0.setTop (mkF m 11 #[.val (.ref a1), .val (.int (6 : Int32)), .val (.int (5 : Int32)), .val (.int (1 : Int32)), .val (.int (1 : Int32))] []))
  refine Go.st (fun _ => XS.iload X0.here C.hx rfl (hb C.hby d4_11) rfl) ?_
  show Go p e below s n0 _ _ _ (T0.setTop (mkF m 13 #[.val (.ref a1), .val (.int (6 : Int32)), .val (.int (5 : Int32)), .val (.int (1 : Int32)), .val (.int (1 : Int32))] [(.int (1 : Int32))]))
  refine Go.if_eq C X0 (pc' := 30) d4_13 (by decide) (by decide) (fun hc => absurd hc (by decide)) (fun _ => ?_)
  show Go p e below s n0 _ _ _ (T0.setTop (mkF m 16 #[.val (.ref a1), .val (.int (6 : Int32)), .val (.int (5 : Int32)), .val (.int (1 : Int32)), .val (.int (1 : Int32))] []))
  refine Go.st (fun _ => XS.aloadN X0.here C.hx rfl (hb C.hby d4_16) rfl rfl) ?_
  show Go p e below s n0 _ _ _ (T0.setTop (mkF m 17 #[.val (.ref a1), .val (.int (6 : Int32)), .val (.int (5 : Int32)), .val (.int (1 : Int32)), .val (.int (1 : Int32))] [(.ref a1)]))
  refine Go.st (fun _ => XS.iconst X0.here C.hx rfl (hb C.hby d4_17)) ?_
  show Go p e below s n0 _ _ _ (T0.setTop (mkF m 18 #[.val (.ref a1), .val (.int (6 : Int32)), .val (.int (5 : Int32)), .val (.int (1 : Int32)), .val (.int (1 : Int32))] [(.int (0 : Int32)), (.ref a1)]))
  refine Go.laload C X0 A1 (by decide) (getL (i := 0) hs (by decide)) d4_18 ?_
  show Go p e below s n0 _ _ _ (T0.setTop (mkF m 19 #[.val (.ref a1), .val (.int (6 : Int32)), .val (.int (5 : Int32)), .val (.int (1 : Int32)), .val (.int (1 : Int32))] [(.long (el sl 0))]))
  refine Go.st (fun _ => XS.aloadN X0.here C.hx rfl (hb C.hby d4_19) rfl rfl) ?_
  show Go p e below s n0 _ _ _ (T0.setTop (mkF m 20 #[.val (.ref a1), .val (.int (6 : Int32)), .val (.int (5 : Int32)), .val (.int (1 : Int32)), .val (.int (1 : Int32))] [(.ref a1), (.long (el sl 0))]))
  refine Go.st (fun _ => XS.iloadN X0.here C.hx rfl (hb C.hby d4_20) rfl) ?_
  show Go p e below s n0 _ _ _ (T0.setTop (mkF m 21 #[.val (.ref a1), .val (.int (6 : Int32)), .val (.int (5 : Int32)), .val (.int (1 : Int32)), .val (.int (1 : Int32))] [(.int (1 : Int32)), (.ref a1), (.long (el sl 0))]))
  refine Go.laload C X0 A1 (by decide) (getL (i := 1) hs (by decide)) d4_21 ?_
  show Go p e below s n0 _ _ _ (T0.setTop (mkF m 22 #[.val (.ref a1), .val (.int (6 : Int32)), .val (.int (5 : Int32)), .val (.int (1 : Int32)), .val (.int (1 : Int32))] [(.long (el sl 1)), (.long (el sl 0))]))
  refine Go.st (fun _ => XS.lcmp X0.here C.hx rfl (hb C.hby d4_22) rfl) ?_
  show Go p e below s n0 _ _ _ (T0.setTop (mkF m 23 #[.val (.ref a1), .val (.int (6 : Int32)), .val (.int (5 : Int32)), .val (.int (1 : Int32)), .val (.int (1 : Int32))] [(.int (lcmpW (el sl 0) (el sl 1)))]))
  refine Go.lif_ne C X0 (pc' := 30) d4_23 (by decide) (by decide) (fun hc23_364 => ?_) (fun hc23_364 => ?_)
  · show Go p e below s n0 _ _ _ (T0.setTop (mkF m 30 #[.val (.ref a1), .val (.int (6 : Int32)), .val (.int (5 : Int32)), .val (.int (1 : Int32)), .val (.int (1 : Int32))] []))
    refine Go.st (fun _ => XS.iconst X0.here C.hx rfl (hb C.hby d4_30)) ?_
    show Go p e below s n0 _ _ _ (T0.setTop (mkF m 31 #[.val (.ref a1), .val (.int (6 : Int32)), .val (.int (5 : Int32)), .val (.int (1 : Int32)), .val (.int (1 : Int32))] [(.int (0 : Int32))]))
    refine Go.st (fun _ => XS.istore X0.here C.hx rfl (hb C.hby d4_31) rfl (l' := #[.val (.ref a1), .val (.int (6 : Int32)), .val (.int (5 : Int32)), .val (.int (1 : Int32)), .val (.int (0 : Int32))]) rfl) ?_
    show Go p e below s n0 _ _ _ (T0.setTop (mkF m 33 #[.val (.ref a1), .val (.int (6 : Int32)), .val (.int (5 : Int32)), .val (.int (1 : Int32)), .val (.int (0 : Int32))] []))
    refine Go.st (fun _ => XS.iloadN X0.here C.hx rfl (hb C.hby d4_33) rfl) ?_
    show Go p e below s n0 _ _ _ (T0.setTop (mkF m 34 #[.val (.ref a1), .val (.int (6 : Int32)), .val (.int (5 : Int32)), .val (.int (1 : Int32)), .val (.int (0 : Int32))] [(.int (5 : Int32))]))
    refine Go.st (fun _ => XS.iconst X0.here C.hx rfl (hb C.hby d4_34)) ?_
    show Go p e below s n0 _ _ _ (T0.setTop (mkF m 35 #[.val (.ref a1), .val (.int (6 : Int32)), .val (.int (5 : Int32)), .val (.int (1 : Int32)), .val (.int (0 : Int32))] [(.int (1 : Int32)), (.int (5 : Int32))]))
    refine Go.icmp_le C X0 (pc' := 62) d4_35 (by decide) (by decide) (fun hc => absurd hc (by decide)) (fun _ => ?_)
    show Go p e below s n0 _ _ _ (T0.setTop (mkF m 38 #[.val (.ref a1), .val (.int (6 : Int32)), .val (.int (5 : Int32)), .val (.int (1 : Int32)), .val (.int (0 : Int32))] []))
    refine Go.st (fun _ => XS.iload X0.here C.hx rfl (hb C.hby d4_38) rfl) ?_
    show Go p e below s n0 _ _ _ (T0.setTop (mkF m 40 #[.val (.ref a1), .val (.int (6 : Int32)), .val (.int (5 : Int32)), .val (.int (1 : Int32)), .val (.int (0 : Int32))] [(.int (0 : Int32))]))
    refine Go.if_eq C X0 (pc' := 59) d4_40 (by decide) (by decide) (fun _ => ?_) (fun hc => absurd hc (by decide))
    show Go p e below s n0 _ _ _ (T0.setTop (mkF m 59 #[.val (.ref a1), .val (.int (6 : Int32)), .val (.int (5 : Int32)), .val (.int (1 : Int32)), .val (.int (0 : Int32))] []))
    refine Go.st (fun _ => XS.iconst X0.here C.hx rfl (hb C.hby d4_59)) ?_
    show Go p e below s n0 _ _ _ (T0.setTop (mkF m 60 #[.val (.ref a1), .val (.int (6 : Int32)), .val (.int (5 : Int32)), .val (.int (1 : Int32)), .val (.int (0 : Int32))] [(.int (0 : Int32))]))
    refine Go.st (fun _ => XS.istore X0.here C.hx rfl (hb C.hby d4_60) rfl (l' := #[.val (.ref a1), .val (.int (6 : Int32)), .val (.int (5 : Int32)), .val (.int (1 : Int32)), .val (.int (0 : Int32))]) rfl) ?_
    show Go p e below s n0 _ _ _ (T0.setTop (mkF m 62 #[.val (.ref a1), .val (.int (6 : Int32)), .val (.int (5 : Int32)), .val (.int (1 : Int32)), .val (.int (0 : Int32))] []))
    refine Go.st (fun _ => XS.iloadN X0.here C.hx rfl (hb C.hby d4_62) rfl) ?_
    show Go p e below s n0 _ _ _ (T0.setTop (mkF m 63 #[.val (.ref a1), .val (.int (6 : Int32)), .val (.int (5 : Int32)), .val (.int (1 : Int32)), .val (.int (0 : Int32))] [(.int (5 : Int32))]))
    refine Go.st (fun _ => XS.iconst X0.here C.hx rfl (hb C.hby d4_63)) ?_
    show Go p e below s n0 _ _ _ (T0.setTop (mkF m 64 #[.val (.ref a1), .val (.int (6 : Int32)), .val (.int (5 : Int32)), .val (.int (1 : Int32)), .val (.int (0 : Int32))] [(.int (2 : Int32)), (.int (5 : Int32))]))
    refine Go.icmp_le C X0 (pc' := 91) d4_64 (by decide) (by decide) (fun hc => absurd hc (by decide)) (fun _ => ?_)
    show Go p e below s n0 _ _ _ (T0.setTop (mkF m 67 #[.val (.ref a1), .val (.int (6 : Int32)), .val (.int (5 : Int32)), .val (.int (1 : Int32)), .val (.int (0 : Int32))] []))
    refine Go.st (fun _ => XS.iload X0.here C.hx rfl (hb C.hby d4_67) rfl) ?_
    show Go p e below s n0 _ _ _ (T0.setTop (mkF m 69 #[.val (.ref a1), .val (.int (6 : Int32)), .val (.int (5 : Int32)), .val (.int (1 : Int32)), .val (.int (0 : Int32))] [(.int (0 : Int32))]))
    refine Go.if_eq C X0 (pc' := 88) d4_69 (by decide) (by decide) (fun _ => ?_) (fun hc => absurd hc (by decide))
    show Go p e below s n0 _ _ _ (T0.setTop (mkF m 88 #[.val (.ref a1), .val (.int (6 : Int32)), .val (.int (5 : Int32)), .val (.int (1 : Int32)), .val (.int (0 : Int32))] []))
    refine Go.st (fun _ => XS.iconst X0.here C.hx rfl (hb C.hby d4_88)) ?_
    show Go p e below s n0 _ _ _ (T0.setTop (mkF m 89 #[.val (.ref a1), .val (.int (6 : Int32)), .val (.int (5 : Int32)), .val (.int (1 : Int32)), .val (.int (0 : Int32))] [(.int (0 : Int32))]))
    refine Go.st (fun _ => XS.istore X0.here C.hx rfl (hb C.hby d4_89) rfl (l' := #[.val (.ref a1), .val (.int (6 : Int32)), .val (.int (5 : Int32)), .val (.int (1 : Int32)), .val (.int (0 : Int32))]) rfl) ?_
    show Go p e below s n0 _ _ _ (T0.setTop (mkF m 91 #[.val (.ref a1), .val (.int (6 : Int32)), .val (.int (5 : Int32)), .val (.int (1 : Int32)), .val (.int (0 : Int32))] []))
    refine Go.st (fun _ => XS.iloadN X0.here C.hx rfl (hb C.hby d4_91) rfl) ?_
    show Go p e below s n0 _ _ _ (T0.setTop (mkF m 92 #[.val (.ref a1), .val (.int (6 : Int32)), .val (.int (5 : Int32)), .val (.int (1 : Int32)), .val (.int (0 : Int32))] [(.int (5 : Int32))]))
    refine Go.st (fun _ => XS.iconst X0.here C.hx rfl (hb C.hby d4_92)) ?_
    show Go p e below s n0 _ _ _ (T0.setTop (mkF m 93 #[.val (.ref a1), .val (.int (6 : Int32)), .val (.int (5 : Int32)), .val (.int (1 : Int32)), .val (.int (0 : Int32))] [(.int (3 : Int32)), (.int (5 : Int32))]))
    refine Go.icmp_le C X0 (pc' := 120) d4_93 (by decide) (by decide) (fun hc => absurd hc (by decide)) (fun _ => ?_)
    show Go p e below s n0 _ _ _ (T0.setTop (mkF m 96 #[.val (.ref a1), .val (.int (6 : Int32)), .val (.int (5 : Int32)), .val (.int (1 : Int32)), .val (.int (0 : Int32))] []))
    refine Go.st (fun _ => XS.iload X0.here C.hx rfl (hb C.hby d4_96) rfl) ?_
    show Go p e below s n0 _ _ _ (T0.setTop (mkF m 98 #[.val (.ref a1), .val (.int (6 : Int32)), .val (.int (5 : Int32)), .val (.int (1 : Int32)), .val (.int (0 : Int32))] [(.int (0 : Int32))]))
    refine Go.if_eq C X0 (pc' := 117) d4_98 (by decide) (by decide) (fun _ => ?_) (fun hc => absurd hc (by decide))
    show Go p e below s n0 _ _ _ (T0.setTop (mkF m 117 #[.val (.ref a1), .val (.int (6 : Int32)), .val (.int (5 : Int32)), .val (.int (1 : Int32)), .val (.int (0 : Int32))] []))
    refine Go.st (fun _ => XS.iconst X0.here C.hx rfl (hb C.hby d4_117)) ?_
    show Go p e below s n0 _ _ _ (T0.setTop (mkF m 118 #[.val (.ref a1), .val (.int (6 : Int32)), .val (.int (5 : Int32)), .val (.int (1 : Int32)), .val (.int (0 : Int32))] [(.int (0 : Int32))]))
    refine Go.st (fun _ => XS.istore X0.here C.hx rfl (hb C.hby d4_118) rfl (l' := #[.val (.ref a1), .val (.int (6 : Int32)), .val (.int (5 : Int32)), .val (.int (1 : Int32)), .val (.int (0 : Int32))]) rfl) ?_
    show Go p e below s n0 _ _ _ (T0.setTop (mkF m 120 #[.val (.ref a1), .val (.int (6 : Int32)), .val (.int (5 : Int32)), .val (.int (1 : Int32)), .val (.int (0 : Int32))] []))
    refine Go.st (fun _ => XS.iloadN X0.here C.hx rfl (hb C.hby d4_120) rfl) ?_
    show Go p e below s n0 _ _ _ (T0.setTop (mkF m 121 #[.val (.ref a1), .val (.int (6 : Int32)), .val (.int (5 : Int32)), .val (.int (1 : Int32)), .val (.int (0 : Int32))] [(.int (5 : Int32))]))
    refine Go.st (fun _ => XS.iconst X0.here C.hx rfl (hb C.hby d4_121)) ?_
    show Go p e below s n0 _ _ _ (T0.setTop (mkF m 122 #[.val (.ref a1), .val (.int (6 : Int32)), .val (.int (5 : Int32)), .val (.int (1 : Int32)), .val (.int (0 : Int32))] [(.int (4 : Int32)), (.int (5 : Int32))]))
    refine Go.icmp_le C X0 (pc' := 149) d4_122 (by decide) (by decide) (fun hc => absurd hc (by decide)) (fun _ => ?_)
    show Go p e below s n0 _ _ _ (T0.setTop (mkF m 125 #[.val (.ref a1), .val (.int (6 : Int32)), .val (.int (5 : Int32)), .val (.int (1 : Int32)), .val (.int (0 : Int32))] []))
    refine Go.st (fun _ => XS.iload X0.here C.hx rfl (hb C.hby d4_125) rfl) ?_
    show Go p e below s n0 _ _ _ (T0.setTop (mkF m 127 #[.val (.ref a1), .val (.int (6 : Int32)), .val (.int (5 : Int32)), .val (.int (1 : Int32)), .val (.int (0 : Int32))] [(.int (0 : Int32))]))
    refine Go.if_eq C X0 (pc' := 146) d4_127 (by decide) (by decide) (fun _ => ?_) (fun hc => absurd hc (by decide))
    show Go p e below s n0 _ _ _ (T0.setTop (mkF m 146 #[.val (.ref a1), .val (.int (6 : Int32)), .val (.int (5 : Int32)), .val (.int (1 : Int32)), .val (.int (0 : Int32))] []))
    refine Go.st (fun _ => XS.iconst X0.here C.hx rfl (hb C.hby d4_146)) ?_
    show Go p e below s n0 _ _ _ (T0.setTop (mkF m 147 #[.val (.ref a1), .val (.int (6 : Int32)), .val (.int (5 : Int32)), .val (.int (1 : Int32)), .val (.int (0 : Int32))] [(.int (0 : Int32))]))
    refine Go.st (fun _ => XS.istore X0.here C.hx rfl (hb C.hby d4_147) rfl (l' := #[.val (.ref a1), .val (.int (6 : Int32)), .val (.int (5 : Int32)), .val (.int (1 : Int32)), .val (.int (0 : Int32))]) rfl) ?_
    show Go p e below s n0 _ _ _ (T0.setTop (mkF m 149 #[.val (.ref a1), .val (.int (6 : Int32)), .val (.int (5 : Int32)), .val (.int (1 : Int32)), .val (.int (0 : Int32))] []))
    refine Go.st (fun _ => XS.iload X0.here C.hx rfl (hb C.hby d4_149) rfl) ?_
    show Go p e below s n0 _ _ _ (T0.setTop (mkF m 151 #[.val (.ref a1), .val (.int (6 : Int32)), .val (.int (5 : Int32)), .val (.int (1 : Int32)), .val (.int (0 : Int32))] [(.int (0 : Int32))]))
    exact Go.retZ C X0 (by decide) d4_151 ⟨by simp [b2i, sameE, Esl, List.range_succ, hc23_364], rfl⟩ (by decide) (by decide)
  · show Go p e below s n0 _ _ _ (T0.setTop (mkF m 26 #[.val (.ref a1), .val (.int (6 : Int32)), .val (.int (5 : Int32)), .val (.int (1 : Int32)), .val (.int (1 : Int32))] []))
    refine Go.st (fun _ => XS.iconst X0.here C.hx rfl (hb C.hby d4_26)) ?_
    show Go p e below s n0 _ _ _ (T0.setTop (mkF m 27 #[.val (.ref a1), .val (.int (6 : Int32)), .val (.int (5 : Int32)), .val (.int (1 : Int32)), .val (.int (1 : Int32))] [(.int (1 : Int32))]))
    refine Go.st (fun _ => XS.goto X0.here C.hx rfl (pc0 := 27) (pc' := 31) rfl (hb C.hby d4_27) (by decide) (by decide)) ?_
    show Go p e below s n0 _ _ _ (T0.setTop (mkF m 31 #[.val (.ref a1), .val (.int (6 : Int32)), .val (.int (5 : Int32)), .val (.int (1 : Int32)), .val (.int (1 : Int32))] [(.int (1 : Int32))]))
    refine Go.st (fun _ => XS.istore X0.here C.hx rfl (hb C.hby d4_31) rfl (l' := #[.val (.ref a1), .val (.int (6 : Int32)), .val (.int (5 : Int32)), .val (.int (1 : Int32)), .val (.int (1 : Int32))]) rfl) ?_
    show Go p e below s n0 _ _ _ (T0.setTop (mkF m 33 #[.val (.ref a1), .val (.int (6 : Int32)), .val (.int (5 : Int32)), .val (.int (1 : Int32)), .val (.int (1 : Int32))] []))
    refine Go.st (fun _ => XS.iloadN X0.here C.hx rfl (hb C.hby d4_33) rfl) ?_
    show Go p e below s n0 _ _ _ (T0.setTop (mkF m 34 #[.val (.ref a1), .val (.int (6 : Int32)), .val (.int (5 : Int32)), .val (.int (1 : Int32)), .val (.int (1 : Int32))] [(.int (5 : Int32))]))
    refine Go.st (fun _ => XS.iconst X0.here C.hx rfl (hb C.hby d4_34)) ?_
    show Go p e below s n0 _ _ _ (T0.setTop (mkF m 35 #[.val (.ref a1), .val (.int (6 : Int32)), .val (.int (5 : Int32)), .val (.int (1 : Int32)), .val (.int (1 : Int32))] [(.int (1 : Int32)), (.int (5 : Int32))]))
    refine Go.icmp_le C X0 (pc' := 62) d4_35 (by decide) (by decide) (fun hc => absurd hc (by decide)) (fun _ => ?_)
    show Go p e below s n0 _ _ _ (T0.setTop (mkF m 38 #[.val (.ref a1), .val (.int (6 : Int32)), .val (.int (5 : Int32)), .val (.int (1 : Int32)), .val (.int (1 : Int32))] []))
    refine Go.st (fun _ => XS.iload X0.here C.hx rfl (hb C.hby d4_38) rfl) ?_
    show Go p e below s n0 _ _ _ (T0.setTop (mkF m 40 #[.val (.ref a1), .val (.int (6 : Int32)), .val (.int (5 : Int32)), .val (.int (1 : Int32)), .val (.int (1 : Int32))] [(.int (1 : Int32))]))
    refine Go.if_eq C X0 (pc' := 59) d4_40 (by decide) (by decide) (fun hc => absurd hc (by decide)) (fun _ => ?_)
    show Go p e below s n0 _ _ _ (T0.setTop (mkF m 43 #[.val (.ref a1), .val (.int (6 : Int32)), .val (.int (5 : Int32)), .val (.int (1 : Int32)), .val (.int (1 : Int32))] []))
    refine Go.st (fun _ => XS.aloadN X0.here C.hx rfl (hb C.hby d4_43) rfl rfl) ?_
    show Go p e below s n0 _ _ _ (T0.setTop (mkF m 44 #[.val (.ref a1), .val (.int (6 : Int32)), .val (.int (5 : Int32)), .val (.int (1 : Int32)), .val (.int (1 : Int32))] [(.ref a1)]))
    refine Go.st (fun _ => XS.iconst X0.here C.hx rfl (hb C.hby d4_44)) ?_
    show Go p e below s n0 _ _ _ (T0.setTop (mkF m 45 #[.val (.ref a1), .val (.int (6 : Int32)), .val (.int (5 : Int32)), .val (.int (1 : Int32)), .val (.int (1 : Int32))] [(.int (1 : Int32)), (.ref a1)]))
    refine Go.laload C X0 A1 (by decide) (getL (i := 1) hs (by decide)) d4_45 ?_
    show Go p e below s n0 _ _ _ (T0.setTop (mkF m 46 #[.val (.ref a1), .val (.int (6 : Int32)), .val (.int (5 : Int32)), .val (.int (1 : Int32)), .val (.int (1 : Int32))] [(.long (el sl 1))]))
    refine Go.st (fun _ => XS.aloadN X0.here C.hx rfl (hb C.hby d4_46) rfl rfl) ?_
    show Go p e below s n0 _ _ _ (T0.setTop (mkF m 47 #[.val (.ref a1), .val (.int (6 : Int32)), .val (.int (5 : Int32)), .val (.int (1 : Int32)), .val (.int (1 : Int32))] [(.ref a1), (.long (el sl 1))]))
    refine Go.st (fun _ => XS.iloadN X0.here C.hx rfl (hb C.hby d4_47) rfl) ?_
    show Go p e below s n0 _ _ _ (T0.setTop (mkF m 48 #[.val (.ref a1), .val (.int (6 : Int32)), .val (.int (5 : Int32)), .val (.int (1 : Int32)), .val (.int (1 : Int32))] [(.int (1 : Int32)), (.ref a1), (.long (el sl 1))]))
    refine Go.st (fun _ => XS.iconst X0.here C.hx rfl (hb C.hby d4_48)) ?_
    show Go p e below s n0 _ _ _ (T0.setTop (mkF m 49 #[.val (.ref a1), .val (.int (6 : Int32)), .val (.int (5 : Int32)), .val (.int (1 : Int32)), .val (.int (1 : Int32))] [(.int (1 : Int32)), (.int (1 : Int32)), (.ref a1), (.long (el sl 1))]))
    refine Go.st (fun _ => XS.iadd X0.here C.hx rfl (hb C.hby d4_49) rfl) ?_
    show Go p e below s n0 _ _ _ (T0.setTop (mkF m 50 #[.val (.ref a1), .val (.int (6 : Int32)), .val (.int (5 : Int32)), .val (.int (1 : Int32)), .val (.int (1 : Int32))] [(.int (2 : Int32)), (.ref a1), (.long (el sl 1))]))
    refine Go.laload C X0 A1 (by decide) (getL (i := 2) hs (by decide)) d4_50 ?_
    show Go p e below s n0 _ _ _ (T0.setTop (mkF m 51 #[.val (.ref a1), .val (.int (6 : Int32)), .val (.int (5 : Int32)), .val (.int (1 : Int32)), .val (.int (1 : Int32))] [(.long (el sl 2)), (.long (el sl 1))]))
    refine Go.st (fun _ => XS.lcmp X0.here C.hx rfl (hb C.hby d4_51) rfl) ?_
    show Go p e below s n0 _ _ _ (T0.setTop (mkF m 52 #[.val (.ref a1), .val (.int (6 : Int32)), .val (.int (5 : Int32)), .val (.int (1 : Int32)), .val (.int (1 : Int32))] [(.int (lcmpW (el sl 1) (el sl 2)))]))
    refine Go.lif_ne C X0 (pc' := 59) d4_52 (by decide) (by decide) (fun hc52_375 => ?_) (fun hc52_375 => ?_)
    · show Go p e below s n0 _ _ _ (T0.setTop (mkF m 59 #[.val (.ref a1), .val (.int (6 : Int32)), .val (.int (5 : Int32)), .val (.int (1 : Int32)), .val (.int (1 : Int32))] []))
      refine Go.st (fun _ => XS.iconst X0.here C.hx rfl (hb C.hby d4_59)) ?_
      show Go p e below s n0 _ _ _ (T0.setTop (mkF m 60 #[.val (.ref a1), .val (.int (6 : Int32)), .val (.int (5 : Int32)), .val (.int (1 : Int32)), .val (.int (1 : Int32))] [(.int (0 : Int32))]))
      refine Go.st (fun _ => XS.istore X0.here C.hx rfl (hb C.hby d4_60) rfl (l' := #[.val (.ref a1), .val (.int (6 : Int32)), .val (.int (5 : Int32)), .val (.int (1 : Int32)), .val (.int (0 : Int32))]) rfl) ?_
      show Go p e below s n0 _ _ _ (T0.setTop (mkF m 62 #[.val (.ref a1), .val (.int (6 : Int32)), .val (.int (5 : Int32)), .val (.int (1 : Int32)), .val (.int (0 : Int32))] []))
      refine Go.st (fun _ => XS.iloadN X0.here C.hx rfl (hb C.hby d4_62) rfl) ?_
      show Go p e below s n0 _ _ _ (T0.setTop (mkF m 63 #[.val (.ref a1), .val (.int (6 : Int32)), .val (.int (5 : Int32)), .val (.int (1 : Int32)), .val (.int (0 : Int32))] [(.int (5 : Int32))]))
      refine Go.st (fun _ => XS.iconst X0.here C.hx rfl (hb C.hby d4_63)) ?_
      show Go p e below s n0 _ _ _ (T0.setTop (mkF m 64 #[.val (.ref a1), .val (.int (6 : Int32)), .val (.int (5 : Int32)), .val (.int (1 : Int32)), .val (.int (0 : Int32))] [(.int (2 : Int32)), (.int (5 : Int32))]))
      refine Go.icmp_le C X0 (pc' := 91) d4_64 (by decide) (by decide) (fun hc => absurd hc (by decide)) (fun _ => ?_)
      show Go p e below s n0 _ _ _ (T0.setTop (mkF m 67 #[.val (.ref a1), .val (.int (6 : Int32)), .val (.int (5 : Int32)), .val (.int (1 : Int32)), .val (.int (0 : Int32))] []))
      refine Go.st (fun _ => XS.iload X0.here C.hx rfl (hb C.hby d4_67) rfl) ?_
      show Go p e below s n0 _ _ _ (T0.setTop (mkF m 69 #[.val (.ref a1), .val (.int (6 : Int32)), .val (.int (5 : Int32)), .val (.int (1 : Int32)), .val (.int (0 : Int32))] [(.int (0 : Int32))]))
      refine Go.if_eq C X0 (pc' := 88) d4_69 (by decide) (by decide) (fun _ => ?_) (fun hc => absurd hc (by decide))
      show Go p e below s n0 _ _ _ (T0.setTop (mkF m 88 #[.val (.ref a1), .val (.int (6 : Int32)), .val (.int (5 : Int32)), .val (.int (1 : Int32)), .val (.int (0 : Int32))] []))
      refine Go.st (fun _ => XS.iconst X0.here C.hx rfl (hb C.hby d4_88)) ?_
      show Go p e below s n0 _ _ _ (T0.setTop (mkF m 89 #[.val (.ref a1), .val (.int (6 : Int32)), .val (.int (5 : Int32)), .val (.int (1 : Int32)), .val (.int (0 : Int32))] [(.int (0 : Int32))]))
      refine Go.st (fun _ => XS.istore X0.here C.hx rfl (hb C.hby d4_89) rfl (l' := #[.val (.ref a1), .val (.int (6 : Int32)), .val (.int (5 : Int32)), .val (.int (1 : Int32)), .val (.int (0 : Int32))]) rfl) ?_
      show Go p e below s n0 _ _ _ (T0.setTop (mkF m 91 #[.val (.ref a1), .val (.int (6 : Int32)), .val (.int (5 : Int32)), .val (.int (1 : Int32)), .val (.int (0 : Int32))] []))
      refine Go.st (fun _ => XS.iloadN X0.here C.hx rfl (hb C.hby d4_91) rfl) ?_
      show Go p e below s n0 _ _ _ (T0.setTop (mkF m 92 #[.val (.ref a1), .val (.int (6 : Int32)), .val (.int (5 : Int32)), .val (.int (1 : Int32)), .val (.int (0 : Int32))] [(.int (5 : Int32))]))
      refine Go.st (fun _ => XS.iconst X0.here C.hx rfl (hb C.hby d4_92)) ?_
      show Go p e below s n0 _ _ _ (T0.setTop (mkF m 93 #[.val (.ref a1), .val (.int (6 : Int32)), .val (.int (5 : Int32)), .val (.int (1 : Int32)), .val (.int (0 : Int32))] [(.int (3 : Int32)), (.int (5 : Int32))]))
      refine Go.icmp_le C X0 (pc' := 120) d4_93 (by decide) (by decide) (fun hc => absurd hc (by decide)) (fun _ => ?_)
      show Go p e below s n0 _ _ _ (T0.setTop (mkF m 96 #[.val (.ref a1), .val (.int (6 : Int32)), .val (.int (5 : Int32)), .val (.int (1 : Int32)), .val (.int (0 : Int32))] []))
      refine Go.st (fun _ => XS.iload X0.here C.hx rfl (hb C.hby d4_96) rfl) ?_
      show Go p e below s n0 _ _ _ (T0.setTop (mkF m 98 #[.val (.ref a1), .val (.int (6 : Int32)), .val (.int (5 : Int32)), .val (.int (1 : Int32)), .val (.int (0 : Int32))] [(.int (0 : Int32))]))
      refine Go.if_eq C X0 (pc' := 117) d4_98 (by decide) (by decide) (fun _ => ?_) (fun hc => absurd hc (by decide))
      show Go p e below s n0 _ _ _ (T0.setTop (mkF m 117 #[.val (.ref a1), .val (.int (6 : Int32)), .val (.int (5 : Int32)), .val (.int (1 : Int32)), .val (.int (0 : Int32))] []))
      refine Go.st (fun _ => XS.iconst X0.here C.hx rfl (hb C.hby d4_117)) ?_
      show Go p e below s n0 _ _ _ (T0.setTop (mkF m 118 #[.val (.ref a1), .val (.int (6 : Int32)), .val (.int (5 : Int32)), .val (.int (1 : Int32)), .val (.int (0 : Int32))] [(.int (0 : Int32))]))
      refine Go.st (fun _ => XS.istore X0.here C.hx rfl (hb C.hby d4_118) rfl (l' := #[.val (.ref a1), .val (.int (6 : Int32)), .val (.int (5 : Int32)), .val (.int (1 : Int32)), .val (.int (0 : Int32))]) rfl) ?_
      show Go p e below s n0 _ _ _ (T0.setTop (mkF m 120 #[.val (.ref a1), .val (.int (6 : Int32)), .val (.int (5 : Int32)), .val (.int (1 : Int32)), .val (.int (0 : Int32))] []))
      refine Go.st (fun _ => XS.iloadN X0.here C.hx rfl (hb C.hby d4_120) rfl) ?_
      show Go p e below s n0 _ _ _ (T0.setTop (mkF m 121 #[.val (.ref a1), .val (.int (6 : Int32)), .val (.int (5 : Int32)), .val (.int (1 : Int32)), .val (.int (0 : Int32))] [(.int (5 : Int32))]))
      refine Go.st (fun _ => XS.iconst X0.here C.hx rfl (hb C.hby d4_121)) ?_
      show Go p e below s n0 _ _ _ (T0.setTop (mkF m 122 #[.val (.ref a1), .val (.int (6 : Int32)), .val (.int (5 : Int32)), .val (.int (1 : Int32)), .val (.int (0 : Int32))] [(.int (4 : Int32)), (.int (5 : Int32))]))
      refine Go.icmp_le C X0 (pc' := 149) d4_122 (by decide) (by decide) (fun hc => absurd hc (by decide)) (fun _ => ?_)
      show Go p e below s n0 _ _ _ (T0.setTop (mkF m 125 #[.val (.ref a1), .val (.int (6 : Int32)), .val (.int (5 : Int32)), .val (.int (1 : Int32)), .val (.int (0 : Int32))] []))
      refine Go.st (fun _ => XS.iload X0.here C.hx rfl (hb C.hby d4_125) rfl) ?_
      show Go p e below s n0 _ _ _ (T0.setTop (mkF m 127 #[.val (.ref a1), .val (.int (6 : Int32)), .val (.int (5 : Int32)), .val (.int (1 : Int32)), .val (.int (0 : Int32))] [(.int (0 : Int32))]))
      refine Go.if_eq C X0 (pc' := 146) d4_127 (by decide) (by decide) (fun _ => ?_) (fun hc => absurd hc (by decide))
      show Go p e below s n0 _ _ _ (T0.setTop (mkF m 146 #[.val (.ref a1), .val (.int (6 : Int32)), .val (.int (5 : Int32)), .val (.int (1 : Int32)), .val (.int (0 : Int32))] []))
      refine Go.st (fun _ => XS.iconst X0.here C.hx rfl (hb C.hby d4_146)) ?_
      show Go p e below s n0 _ _ _ (T0.setTop (mkF m 147 #[.val (.ref a1), .val (.int (6 : Int32)), .val (.int (5 : Int32)), .val (.int (1 : Int32)), .val (.int (0 : Int32))] [(.int (0 : Int32))]))
      refine Go.st (fun _ => XS.istore X0.here C.hx rfl (hb C.hby d4_147) rfl (l' := #[.val (.ref a1), .val (.int (6 : Int32)), .val (.int (5 : Int32)), .val (.int (1 : Int32)), .val (.int (0 : Int32))]) rfl) ?_
      show Go p e below s n0 _ _ _ (T0.setTop (mkF m 149 #[.val (.ref a1), .val (.int (6 : Int32)), .val (.int (5 : Int32)), .val (.int (1 : Int32)), .val (.int (0 : Int32))] []))
      refine Go.st (fun _ => XS.iload X0.here C.hx rfl (hb C.hby d4_149) rfl) ?_
      show Go p e below s n0 _ _ _ (T0.setTop (mkF m 151 #[.val (.ref a1), .val (.int (6 : Int32)), .val (.int (5 : Int32)), .val (.int (1 : Int32)), .val (.int (0 : Int32))] [(.int (0 : Int32))]))
      exact Go.retZ C X0 (by decide) d4_151 ⟨by simp [b2i, sameE, Esl, List.range_succ, hc23_364, hc52_375], rfl⟩ (by decide) (by decide)
    · show Go p e below s n0 _ _ _ (T0.setTop (mkF m 55 #[.val (.ref a1), .val (.int (6 : Int32)), .val (.int (5 : Int32)), .val (.int (1 : Int32)), .val (.int (1 : Int32))] []))
      refine Go.st (fun _ => XS.iconst X0.here C.hx rfl (hb C.hby d4_55)) ?_
      show Go p e below s n0 _ _ _ (T0.setTop (mkF m 56 #[.val (.ref a1), .val (.int (6 : Int32)), .val (.int (5 : Int32)), .val (.int (1 : Int32)), .val (.int (1 : Int32))] [(.int (1 : Int32))]))
      refine Go.st (fun _ => XS.goto X0.here C.hx rfl (pc0 := 56) (pc' := 60) rfl (hb C.hby d4_56) (by decide) (by decide)) ?_
      show Go p e below s n0 _ _ _ (T0.setTop (mkF m 60 #[.val (.ref a1), .val (.int (6 : Int32)), .val (.int (5 : Int32)), .val (.int (1 : Int32)), .val (.int (1 : Int32))] [(.int (1 : Int32))]))
      refine Go.st (fun _ => XS.istore X0.here C.hx rfl (hb C.hby d4_60) rfl (l' := #[.val (.ref a1), .val (.int (6 : Int32)), .val (.int (5 : Int32)), .val (.int (1 : Int32)), .val (.int (1 : Int32))]) rfl) ?_
      show Go p e below s n0 _ _ _ (T0.setTop (mkF m 62 #[.val (.ref a1), .val (.int (6 : Int32)), .val (.int (5 : Int32)), .val (.int (1 : Int32)), .val (.int (1 : Int32))] []))
      refine Go.st (fun _ => XS.iloadN X0.here C.hx rfl (hb C.hby d4_62) rfl) ?_
      show Go p e below s n0 _ _ _ (T0.setTop (mkF m 63 #[.val (.ref a1), .val (.int (6 : Int32)), .val (.int (5 : Int32)), .val (.int (1 : Int32)), .val (.int (1 : Int32))] [(.int (5 : Int32))]))
      refine Go.st (fun _ => XS.iconst X0.here C.hx rfl (hb C.hby d4_63)) ?_
      show Go p e below s n0 _ _ _ (T0.setTop (mkF m 64 #[.val (.ref a1), .val (.int (6 : Int32)), .val (.int (5 : Int32)), .val (.int (1 : Int32)), .val (.int (1 : Int32))] [(.int (2 : Int32)), (.int (5 : Int32))]))
      refine Go.icmp_le C X0 (pc' := 91) d4_64 (by decide) (by decide) (fun hc => absurd hc (by decide)) (fun _ => ?_)
      show Go p e below s n0 _ _ _ (T0.setTop (mkF m 67 #[.val (.ref a1), .val (.int (6 : Int32)), .val (.int (5 : Int32)), .val (.int (1 : Int32)), .val (.int (1 : Int32))] []))
      refine Go.st (fun _ => XS.iload X0.here C.hx rfl (hb C.hby d4_67) rfl) ?_
      show Go p e below s n0 _ _ _ (T0.setTop (mkF m 69 #[.val (.ref a1), .val (.int (6 : Int32)), .val (.int (5 : Int32)), .val (.int (1 : Int32)), .val (.int (1 : Int32))] [(.int (1 : Int32))]))
      refine Go.if_eq C X0 (pc' := 88) d4_69 (by decide) (by decide) (fun hc => absurd hc (by decide)) (fun _ => ?_)
      show Go p e below s n0 _ _ _ (T0.setTop (mkF m 72 #[.val (.ref a1), .val (.int (6 : Int32)), .val (.int (5 : Int32)), .val (.int (1 : Int32)), .val (.int (1 : Int32))] []))
      refine Go.st (fun _ => XS.aloadN X0.here C.hx rfl (hb C.hby d4_72) rfl rfl) ?_
      show Go p e below s n0 _ _ _ (T0.setTop (mkF m 73 #[.val (.ref a1), .val (.int (6 : Int32)), .val (.int (5 : Int32)), .val (.int (1 : Int32)), .val (.int (1 : Int32))] [(.ref a1)]))
      refine Go.st (fun _ => XS.iconst X0.here C.hx rfl (hb C.hby d4_73)) ?_
      show Go p e below s n0 _ _ _ (T0.setTop (mkF m 74 #[.val (.ref a1), .val (.int (6 : Int32)), .val (.int (5 : Int32)), .val (.int (1 : Int32)), .val (.int (1 : Int32))] [(.int (2 : Int32)), (.ref a1)]))
      refine Go.laload C X0 A1 (by decide) (getL (i := 2) hs (by decide)) d4_74 ?_
      show Go p e below s n0 _ _ _ (T0.setTop (mkF m 75 #[.val (.ref a1), .val (.int (6 : Int32)), .val (.int (5 : Int32)), .val (.int (1 : Int32)), .val (.int (1 : Int32))] [(.long (el sl 2))]))
      refine Go.st (fun _ => XS.aloadN X0.here C.hx rfl (hb C.hby d4_75) rfl rfl) ?_
      show Go p e below s n0 _ _ _ (T0.setTop (mkF m 76 #[.val (.ref a1), .val (.int (6 : Int32)), .val (.int (5 : Int32)), .val (.int (1 : Int32)), .val (.int (1 : Int32))] [(.ref a1), (.long (el sl 2))]))
      refine Go.st (fun _ => XS.iloadN X0.here C.hx rfl (hb C.hby d4_76) rfl) ?_
      show Go p e below s n0 _ _ _ (T0.setTop (mkF m 77 #[.val (.ref a1), .val (.int (6 : Int32)), .val (.int (5 : Int32)), .val (.int (1 : Int32)), .val (.int (1 : Int32))] [(.int (1 : Int32)), (.ref a1), (.long (el sl 2))]))
      refine Go.st (fun _ => XS.iconst X0.here C.hx rfl (hb C.hby d4_77)) ?_
      show Go p e below s n0 _ _ _ (T0.setTop (mkF m 78 #[.val (.ref a1), .val (.int (6 : Int32)), .val (.int (5 : Int32)), .val (.int (1 : Int32)), .val (.int (1 : Int32))] [(.int (2 : Int32)), (.int (1 : Int32)), (.ref a1), (.long (el sl 2))]))
      refine Go.st (fun _ => XS.iadd X0.here C.hx rfl (hb C.hby d4_78) rfl) ?_
      show Go p e below s n0 _ _ _ (T0.setTop (mkF m 79 #[.val (.ref a1), .val (.int (6 : Int32)), .val (.int (5 : Int32)), .val (.int (1 : Int32)), .val (.int (1 : Int32))] [(.int (3 : Int32)), (.ref a1), (.long (el sl 2))]))
      refine Go.laload C X0 A1 (by decide) (getL (i := 3) hs (by decide)) d4_79 ?_
      show Go p e below s n0 _ _ _ (T0.setTop (mkF m 80 #[.val (.ref a1), .val (.int (6 : Int32)), .val (.int (5 : Int32)), .val (.int (1 : Int32)), .val (.int (1 : Int32))] [(.long (el sl 3)), (.long (el sl 2))]))
      refine Go.st (fun _ => XS.lcmp X0.here C.hx rfl (hb C.hby d4_80) rfl) ?_
      show Go p e below s n0 _ _ _ (T0.setTop (mkF m 81 #[.val (.ref a1), .val (.int (6 : Int32)), .val (.int (5 : Int32)), .val (.int (1 : Int32)), .val (.int (1 : Int32))] [(.int (lcmpW (el sl 2) (el sl 3)))]))
      refine Go.lif_ne C X0 (pc' := 88) d4_81 (by decide) (by decide) (fun hc81_384 => ?_) (fun hc81_384 => ?_)
      · show Go p e below s n0 _ _ _ (T0.setTop (mkF m 88 #[.val (.ref a1), .val (.int (6 : Int32)), .val (.int (5 : Int32)), .val (.int (1 : Int32)), .val (.int (1 : Int32))] []))
        refine Go.st (fun _ => XS.iconst X0.here C.hx rfl (hb C.hby d4_88)) ?_
        show Go p e below s n0 _ _ _ (T0.setTop (mkF m 89 #[.val (.ref a1), .val (.int (6 : Int32)), .val (.int (5 : Int32)), .val (.int (1 : Int32)), .val (.int (1 : Int32))] [(.int (0 : Int32))]))
        refine Go.st (fun _ => XS.istore X0.here C.hx rfl (hb C.hby d4_89) rfl (l' := #[.val (.ref a1), .val (.int (6 : Int32)), .val (.int (5 : Int32)), .val (.int (1 : Int32)), .val (.int (0 : Int32))]) rfl) ?_
        show Go p e below s n0 _ _ _ (T0.setTop (mkF m 91 #[.val (.ref a1), .val (.int (6 : Int32)), .val (.int (5 : Int32)), .val (.int (1 : Int32)), .val (.int (0 : Int32))] []))
        refine Go.st (fun _ => XS.iloadN X0.here C.hx rfl (hb C.hby d4_91) rfl) ?_
        show Go p e below s n0 _ _ _ (T0.setTop (mkF m 92 #[.val (.ref a1), .val (.int (6 : Int32)), .val (.int (5 : Int32)), .val (.int (1 : Int32)), .val (.int (0 : Int32))] [(.int (5 : Int32))]))
        refine Go.st (fun _ => XS.iconst X0.here C.hx rfl (hb C.hby d4_92)) ?_
        show Go p e below s n0 _ _ _ (T0.setTop (mkF m 93 #[.val (.ref a1), .val (.int (6 : Int32)), .val (.int (5 : Int32)), .val (.int (1 : Int32)), .val (.int (0 : Int32))] [(.int (3 : Int32)), (.int (5 : Int32))]))
        refine Go.icmp_le C X0 (pc' := 120) d4_93 (by decide) (by decide) (fun hc => absurd hc (by decide)) (fun _ => ?_)
        show Go p e below s n0 _ _ _ (T0.setTop (mkF m 96 #[.val (.ref a1), .val (.int (6 : Int32)), .val (.int (5 : Int32)), .val (.int (1 : Int32)), .val (.int (0 : Int32))] []))
        refine Go.st (fun _ => XS.iload X0.here C.hx rfl (hb C.hby d4_96) rfl) ?_
        show Go p e below s n0 _ _ _ (T0.setTop (mkF m 98 #[.val (.ref a1), .val (.int (6 : Int32)), .val (.int (5 : Int32)), .val (.int (1 : Int32)), .val (.int (0 : Int32))] [(.int (0 : Int32))]))
        refine Go.if_eq C X0 (pc' := 117) d4_98 (by decide) (by decide) (fun _ => ?_) (fun hc => absurd hc (by decide))
        show Go p e below s n0 _ _ _ (T0.setTop (mkF m 117 #[.val (.ref a1), .val (.int (6 : Int32)), .val (.int (5 : Int32)), .val (.int (1 : Int32)), .val (.int (0 : Int32))] []))
        refine Go.st (fun _ => XS.iconst X0.here C.hx rfl (hb C.hby d4_117)) ?_
        show Go p e below s n0 _ _ _ (T0.setTop (mkF m 118 #[.val (.ref a1), .val (.int (6 : Int32)), .val (.int (5 : Int32)), .val (.int (1 : Int32)), .val (.int (0 : Int32))] [(.int (0 : Int32))]))
        refine Go.st (fun _ => XS.istore X0.here C.hx rfl (hb C.hby d4_118) rfl (l' := #[.val (.ref a1), .val (.int (6 : Int32)), .val (.int (5 : Int32)), .val (.int (1 : Int32)), .val (.int (0 : Int32))]) rfl) ?_
        show Go p e below s n0 _ _ _ (T0.setTop (mkF m 120 #[.val (.ref a1), .val (.int (6 : Int32)), .val (.int (5 : Int32)), .val (.int (1 : Int32)), .val (.int (0 : Int32))] []))
        refine Go.st (fun _ => XS.iloadN X0.here C.hx rfl (hb C.hby d4_120) rfl) ?_
        show Go p e below s n0 _ _ _ (T0.setTop (mkF m 121 #[.val (.ref a1), .val (.int (6 : Int32)), .val (.int (5 : Int32)), .val (.int (1 : Int32)), .val (.int (0 : Int32))] [(.int (5 : Int32))]))
        refine Go.st (fun _ => XS.iconst X0.here C.hx rfl (hb C.hby d4_121)) ?_
        show Go p e below s n0 _ _ _ (T0.setTop (mkF m 122 #[.val (.ref a1), .val (.int (6 : Int32)), .val (.int (5 : Int32)), .val (.int (1 : Int32)), .val (.int (0 : Int32))] [(.int (4 : Int32)), (.int (5 : Int32))]))
        refine Go.icmp_le C X0 (pc' := 149) d4_122 (by decide) (by decide) (fun hc => absurd hc (by decide)) (fun _ => ?_)
        show Go p e below s n0 _ _ _ (T0.setTop (mkF m 125 #[.val (.ref a1), .val (.int (6 : Int32)), .val (.int (5 : Int32)), .val (.int (1 : Int32)), .val (.int (0 : Int32))] []))
        refine Go.st (fun _ => XS.iload X0.here C.hx rfl (hb C.hby d4_125) rfl) ?_
        show Go p e below s n0 _ _ _ (T0.setTop (mkF m 127 #[.val (.ref a1), .val (.int (6 : Int32)), .val (.int (5 : Int32)), .val (.int (1 : Int32)), .val (.int (0 : Int32))] [(.int (0 : Int32))]))
        refine Go.if_eq C X0 (pc' := 146) d4_127 (by decide) (by decide) (fun _ => ?_) (fun hc => absurd hc (by decide))
        show Go p e below s n0 _ _ _ (T0.setTop (mkF m 146 #[.val (.ref a1), .val (.int (6 : Int32)), .val (.int (5 : Int32)), .val (.int (1 : Int32)), .val (.int (0 : Int32))] []))
        refine Go.st (fun _ => XS.iconst X0.here C.hx rfl (hb C.hby d4_146)) ?_
        show Go p e below s n0 _ _ _ (T0.setTop (mkF m 147 #[.val (.ref a1), .val (.int (6 : Int32)), .val (.int (5 : Int32)), .val (.int (1 : Int32)), .val (.int (0 : Int32))] [(.int (0 : Int32))]))
        refine Go.st (fun _ => XS.istore X0.here C.hx rfl (hb C.hby d4_147) rfl (l' := #[.val (.ref a1), .val (.int (6 : Int32)), .val (.int (5 : Int32)), .val (.int (1 : Int32)), .val (.int (0 : Int32))]) rfl) ?_
        show Go p e below s n0 _ _ _ (T0.setTop (mkF m 149 #[.val (.ref a1), .val (.int (6 : Int32)), .val (.int (5 : Int32)), .val (.int (1 : Int32)), .val (.int (0 : Int32))] []))
        refine Go.st (fun _ => XS.iload X0.here C.hx rfl (hb C.hby d4_149) rfl) ?_
        show Go p e below s n0 _ _ _ (T0.setTop (mkF m 151 #[.val (.ref a1), .val (.int (6 : Int32)), .val (.int (5 : Int32)), .val (.int (1 : Int32)), .val (.int (0 : Int32))] [(.int (0 : Int32))]))
        exact Go.retZ C X0 (by decide) d4_151 ⟨by simp [b2i, sameE, Esl, List.range_succ, hc23_364, hc52_375, hc81_384], rfl⟩ (by decide) (by decide)
      · show Go p e below s n0 _ _ _ (T0.setTop (mkF m 84 #[.val (.ref a1), .val (.int (6 : Int32)), .val (.int (5 : Int32)), .val (.int (1 : Int32)), .val (.int (1 : Int32))] []))
        refine Go.st (fun _ => XS.iconst X0.here C.hx rfl (hb C.hby d4_84)) ?_
        show Go p e below s n0 _ _ _ (T0.setTop (mkF m 85 #[.val (.ref a1), .val (.int (6 : Int32)), .val (.int (5 : Int32)), .val (.int (1 : Int32)), .val (.int (1 : Int32))] [(.int (1 : Int32))]))
        refine Go.st (fun _ => XS.goto X0.here C.hx rfl (pc0 := 85) (pc' := 89) rfl (hb C.hby d4_85) (by decide) (by decide)) ?_
        show Go p e below s n0 _ _ _ (T0.setTop (mkF m 89 #[.val (.ref a1), .val (.int (6 : Int32)), .val (.int (5 : Int32)), .val (.int (1 : Int32)), .val (.int (1 : Int32))] [(.int (1 : Int32))]))
        refine Go.st (fun _ => XS.istore X0.here C.hx rfl (hb C.hby d4_89) rfl (l' := #[.val (.ref a1), .val (.int (6 : Int32)), .val (.int (5 : Int32)), .val (.int (1 : Int32)), .val (.int (1 : Int32))]) rfl) ?_
        show Go p e below s n0 _ _ _ (T0.setTop (mkF m 91 #[.val (.ref a1), .val (.int (6 : Int32)), .val (.int (5 : Int32)), .val (.int (1 : Int32)), .val (.int (1 : Int32))] []))
        refine Go.st (fun _ => XS.iloadN X0.here C.hx rfl (hb C.hby d4_91) rfl) ?_
        show Go p e below s n0 _ _ _ (T0.setTop (mkF m 92 #[.val (.ref a1), .val (.int (6 : Int32)), .val (.int (5 : Int32)), .val (.int (1 : Int32)), .val (.int (1 : Int32))] [(.int (5 : Int32))]))
        refine Go.st (fun _ => XS.iconst X0.here C.hx rfl (hb C.hby d4_92)) ?_
        show Go p e below s n0 _ _ _ (T0.setTop (mkF m 93 #[.val (.ref a1), .val (.int (6 : Int32)), .val (.int (5 : Int32)), .val (.int (1 : Int32)), .val (.int (1 : Int32))] [(.int (3 : Int32)), (.int (5 : Int32))]))
        refine Go.icmp_le C X0 (pc' := 120) d4_93 (by decide) (by decide) (fun hc => absurd hc (by decide)) (fun _ => ?_)
        show Go p e below s n0 _ _ _ (T0.setTop (mkF m 96 #[.val (.ref a1), .val (.int (6 : Int32)), .val (.int (5 : Int32)), .val (.int (1 : Int32)), .val (.int (1 : Int32))] []))
        refine Go.st (fun _ => XS.iload X0.here C.hx rfl (hb C.hby d4_96) rfl) ?_
        show Go p e below s n0 _ _ _ (T0.setTop (mkF m 98 #[.val (.ref a1), .val (.int (6 : Int32)), .val (.int (5 : Int32)), .val (.int (1 : Int32)), .val (.int (1 : Int32))] [(.int (1 : Int32))]))
        refine Go.if_eq C X0 (pc' := 117) d4_98 (by decide) (by decide) (fun hc => absurd hc (by decide)) (fun _ => ?_)
        show Go p e below s n0 _ _ _ (T0.setTop (mkF m 101 #[.val (.ref a1), .val (.int (6 : Int32)), .val (.int (5 : Int32)), .val (.int (1 : Int32)), .val (.int (1 : Int32))] []))
        refine Go.st (fun _ => XS.aloadN X0.here C.hx rfl (hb C.hby d4_101) rfl rfl) ?_
        show Go p e below s n0 _ _ _ (T0.setTop (mkF m 102 #[.val (.ref a1), .val (.int (6 : Int32)), .val (.int (5 : Int32)), .val (.int (1 : Int32)), .val (.int (1 : Int32))] [(.ref a1)]))
        refine Go.st (fun _ => XS.iconst X0.here C.hx rfl (hb C.hby d4_102)) ?_
        show Go p e below s n0 _ _ _ (T0.setTop (mkF m 103 #[.val (.ref a1), .val (.int (6 : Int32)), .val (.int (5 : Int32)), .val (.int (1 : Int32)), .val (.int (1 : Int32))] [(.int (3 : Int32)), (.ref a1)]))
        refine Go.laload C X0 A1 (by decide) (getL (i := 3) hs (by decide)) d4_103 ?_
        show Go p e below s n0 _ _ _ (T0.setTop (mkF m 104 #[.val (.ref a1), .val (.int (6 : Int32)), .val (.int (5 : Int32)), .val (.int (1 : Int32)), .val (.int (1 : Int32))] [(.long (el sl 3))]))
        refine Go.st (fun _ => XS.aloadN X0.here C.hx rfl (hb C.hby d4_104) rfl rfl) ?_
        show Go p e below s n0 _ _ _ (T0.setTop (mkF m 105 #[.val (.ref a1), .val (.int (6 : Int32)), .val (.int (5 : Int32)), .val (.int (1 : Int32)), .val (.int (1 : Int32))] [(.ref a1), (.long (el sl 3))]))
        refine Go.st (fun _ => XS.iloadN X0.here C.hx rfl (hb C.hby d4_105) rfl) ?_
        show Go p e below s n0 _ _ _ (T0.setTop (mkF m 106 #[.val (.ref a1), .val (.int (6 : Int32)), .val (.int (5 : Int32)), .val (.int (1 : Int32)), .val (.int (1 : Int32))] [(.int (1 : Int32)), (.ref a1), (.long (el sl 3))]))
        refine Go.st (fun _ => XS.iconst X0.here C.hx rfl (hb C.hby d4_106)) ?_
        show Go p e below s n0 _ _ _ (T0.setTop (mkF m 107 #[.val (.ref a1), .val (.int (6 : Int32)), .val (.int (5 : Int32)), .val (.int (1 : Int32)), .val (.int (1 : Int32))] [(.int (3 : Int32)), (.int (1 : Int32)), (.ref a1), (.long (el sl 3))]))
        refine Go.st (fun _ => XS.iadd X0.here C.hx rfl (hb C.hby d4_107) rfl) ?_
        show Go p e below s n0 _ _ _ (T0.setTop (mkF m 108 #[.val (.ref a1), .val (.int (6 : Int32)), .val (.int (5 : Int32)), .val (.int (1 : Int32)), .val (.int (1 : Int32))] [(.int (4 : Int32)), (.ref a1), (.long (el sl 3))]))
        refine Go.laload C X0 A1 (by decide) (getL (i := 4) hs (by decide)) d4_108 ?_
        show Go p e below s n0 _ _ _ (T0.setTop (mkF m 109 #[.val (.ref a1), .val (.int (6 : Int32)), .val (.int (5 : Int32)), .val (.int (1 : Int32)), .val (.int (1 : Int32))] [(.long (el sl 4)), (.long (el sl 3))]))
        refine Go.st (fun _ => XS.lcmp X0.here C.hx rfl (hb C.hby d4_109) rfl) ?_
        show Go p e below s n0 _ _ _ (T0.setTop (mkF m 110 #[.val (.ref a1), .val (.int (6 : Int32)), .val (.int (5 : Int32)), .val (.int (1 : Int32)), .val (.int (1 : Int32))] [(.int (lcmpW (el sl 3) (el sl 4)))]))
        refine Go.lif_ne C X0 (pc' := 117) d4_110 (by decide) (by decide) (fun hc110_391 => ?_) (fun hc110_391 => ?_)
        · show Go p e below s n0 _ _ _ (T0.setTop (mkF m 117 #[.val (.ref a1), .val (.int (6 : Int32)), .val (.int (5 : Int32)), .val (.int (1 : Int32)), .val (.int (1 : Int32))] []))
          refine Go.st (fun _ => XS.iconst X0.here C.hx rfl (hb C.hby d4_117)) ?_
          show Go p e below s n0 _ _ _ (T0.setTop (mkF m 118 #[.val (.ref a1), .val (.int (6 : Int32)), .val (.int (5 : Int32)), .val (.int (1 : Int32)), .val (.int (1 : Int32))] [(.int (0 : Int32))]))
          refine Go.st (fun _ => XS.istore X0.here C.hx rfl (hb C.hby d4_118) rfl (l' := #[.val (.ref a1), .val (.int (6 : Int32)), .val (.int (5 : Int32)), .val (.int (1 : Int32)), .val (.int (0 : Int32))]) rfl) ?_
          show Go p e below s n0 _ _ _ (T0.setTop (mkF m 120 #[.val (.ref a1), .val (.int (6 : Int32)), .val (.int (5 : Int32)), .val (.int (1 : Int32)), .val (.int (0 : Int32))] []))
          refine Go.st (fun _ => XS.iloadN X0.here C.hx rfl (hb C.hby d4_120) rfl) ?_
          show Go p e below s n0 _ _ _ (T0.setTop (mkF m 121 #[.val (.ref a1), .val (.int (6 : Int32)), .val (.int (5 : Int32)), .val (.int (1 : Int32)), .val (.int (0 : Int32))] [(.int (5 : Int32))]))
          refine Go.st (fun _ => XS.iconst X0.here C.hx rfl (hb C.hby d4_121)) ?_
          show Go p e below s n0 _ _ _ (T0.setTop (mkF m 122 #[.val (.ref a1), .val (.int (6 : Int32)), .val (.int (5 : Int32)), .val (.int (1 : Int32)), .val (.int (0 : Int32))] [(.int (4 : Int32)), (.int (5 : Int32))]))
          refine Go.icmp_le C X0 (pc' := 149) d4_122 (by decide) (by decide) (fun hc => absurd hc (by decide)) (fun _ => ?_)
          show Go p e below s n0 _ _ _ (T0.setTop (mkF m 125 #[.val (.ref a1), .val (.int (6 : Int32)), .val (.int (5 : Int32)), .val (.int (1 : Int32)), .val (.int (0 : Int32))] []))
          refine Go.st (fun _ => XS.iload X0.here C.hx rfl (hb C.hby d4_125) rfl) ?_
          show Go p e below s n0 _ _ _ (T0.setTop (mkF m 127 #[.val (.ref a1), .val (.int (6 : Int32)), .val (.int (5 : Int32)), .val (.int (1 : Int32)), .val (.int (0 : Int32))] [(.int (0 : Int32))]))
          refine Go.if_eq C X0 (pc' := 146) d4_127 (by decide) (by decide) (fun _ => ?_) (fun hc => absurd hc (by decide))
          show Go p e below s n0 _ _ _ (T0.setTop (mkF m 146 #[.val (.ref a1), .val (.int (6 : Int32)), .val (.int (5 : Int32)), .val (.int (1 : Int32)), .val (.int (0 : Int32))] []))
          refine Go.st (fun _ => XS.iconst X0.here C.hx rfl (hb C.hby d4_146)) ?_
          show Go p e below s n0 _ _ _ (T0.setTop (mkF m 147 #[.val (.ref a1), .val (.int (6 : Int32)), .val (.int (5 : Int32)), .val (.int (1 : Int32)), .val (.int (0 : Int32))] [(.int (0 : Int32))]))
          refine Go.st (fun _ => XS.istore X0.here C.hx rfl (hb C.hby d4_147) rfl (l' := #[.val (.ref a1), .val (.int (6 : Int32)), .val (.int (5 : Int32)), .val (.int (1 : Int32)), .val (.int (0 : Int32))]) rfl) ?_
          show Go p e below s n0 _ _ _ (T0.setTop (mkF m 149 #[.val (.ref a1), .val (.int (6 : Int32)), .val (.int (5 : Int32)), .val (.int (1 : Int32)), .val (.int (0 : Int32))] []))
          refine Go.st (fun _ => XS.iload X0.here C.hx rfl (hb C.hby d4_149) rfl) ?_
          show Go p e below s n0 _ _ _ (T0.setTop (mkF m 151 #[.val (.ref a1), .val (.int (6 : Int32)), .val (.int (5 : Int32)), .val (.int (1 : Int32)), .val (.int (0 : Int32))] [(.int (0 : Int32))]))
          exact Go.retZ C X0 (by decide) d4_151 ⟨by simp [b2i, sameE, Esl, List.range_succ, hc23_364, hc52_375, hc81_384, hc110_391], rfl⟩ (by decide) (by decide)
        · show Go p e below s n0 _ _ _ (T0.setTop (mkF m 113 #[.val (.ref a1), .val (.int (6 : Int32)), .val (.int (5 : Int32)), .val (.int (1 : Int32)), .val (.int (1 : Int32))] []))
          refine Go.st (fun _ => XS.iconst X0.here C.hx rfl (hb C.hby d4_113)) ?_
          show Go p e below s n0 _ _ _ (T0.setTop (mkF m 114 #[.val (.ref a1), .val (.int (6 : Int32)), .val (.int (5 : Int32)), .val (.int (1 : Int32)), .val (.int (1 : Int32))] [(.int (1 : Int32))]))
          refine Go.st (fun _ => XS.goto X0.here C.hx rfl (pc0 := 114) (pc' := 118) rfl (hb C.hby d4_114) (by decide) (by decide)) ?_
          show Go p e below s n0 _ _ _ (T0.setTop (mkF m 118 #[.val (.ref a1), .val (.int (6 : Int32)), .val (.int (5 : Int32)), .val (.int (1 : Int32)), .val (.int (1 : Int32))] [(.int (1 : Int32))]))
          refine Go.st (fun _ => XS.istore X0.here C.hx rfl (hb C.hby d4_118) rfl (l' := #[.val (.ref a1), .val (.int (6 : Int32)), .val (.int (5 : Int32)), .val (.int (1 : Int32)), .val (.int (1 : Int32))]) rfl) ?_
          show Go p e below s n0 _ _ _ (T0.setTop (mkF m 120 #[.val (.ref a1), .val (.int (6 : Int32)), .val (.int (5 : Int32)), .val (.int (1 : Int32)), .val (.int (1 : Int32))] []))
          refine Go.st (fun _ => XS.iloadN X0.here C.hx rfl (hb C.hby d4_120) rfl) ?_
          show Go p e below s n0 _ _ _ (T0.setTop (mkF m 121 #[.val (.ref a1), .val (.int (6 : Int32)), .val (.int (5 : Int32)), .val (.int (1 : Int32)), .val (.int (1 : Int32))] [(.int (5 : Int32))]))
          refine Go.st (fun _ => XS.iconst X0.here C.hx rfl (hb C.hby d4_121)) ?_
          show Go p e below s n0 _ _ _ (T0.setTop (mkF m 122 #[.val (.ref a1), .val (.int (6 : Int32)), .val (.int (5 : Int32)), .val (.int (1 : Int32)), .val (.int (1 : Int32))] [(.int (4 : Int32)), (.int (5 : Int32))]))
          refine Go.icmp_le C X0 (pc' := 149) d4_122 (by decide) (by decide) (fun hc => absurd hc (by decide)) (fun _ => ?_)
          show Go p e below s n0 _ _ _ (T0.setTop (mkF m 125 #[.val (.ref a1), .val (.int (6 : Int32)), .val (.int (5 : Int32)), .val (.int (1 : Int32)), .val (.int (1 : Int32))] []))
          refine Go.st (fun _ => XS.iload X0.here C.hx rfl (hb C.hby d4_125) rfl) ?_
          show Go p e below s n0 _ _ _ (T0.setTop (mkF m 127 #[.val (.ref a1), .val (.int (6 : Int32)), .val (.int (5 : Int32)), .val (.int (1 : Int32)), .val (.int (1 : Int32))] [(.int (1 : Int32))]))
          refine Go.if_eq C X0 (pc' := 146) d4_127 (by decide) (by decide) (fun hc => absurd hc (by decide)) (fun _ => ?_)
          show Go p e below s n0 _ _ _ (T0.setTop (mkF m 130 #[.val (.ref a1), .val (.int (6 : Int32)), .val (.int (5 : Int32)), .val (.int (1 : Int32)), .val (.int (1 : Int32))] []))
          refine Go.st (fun _ => XS.aloadN X0.here C.hx rfl (hb C.hby d4_130) rfl rfl) ?_
          show Go p e below s n0 _ _ _ (T0.setTop (mkF m 131 #[.val (.ref a1), .val (.int (6 : Int32)), .val (.int (5 : Int32)), .val (.int (1 : Int32)), .val (.int (1 : Int32))] [(.ref a1)]))
          refine Go.st (fun _ => XS.iconst X0.here C.hx rfl (hb C.hby d4_131)) ?_
          show Go p e below s n0 _ _ _ (T0.setTop (mkF m 132 #[.val (.ref a1), .val (.int (6 : Int32)), .val (.int (5 : Int32)), .val (.int (1 : Int32)), .val (.int (1 : Int32))] [(.int (4 : Int32)), (.ref a1)]))
          refine Go.laload C X0 A1 (by decide) (getL (i := 4) hs (by decide)) d4_132 ?_
          show Go p e below s n0 _ _ _ (T0.setTop (mkF m 133 #[.val (.ref a1), .val (.int (6 : Int32)), .val (.int (5 : Int32)), .val (.int (1 : Int32)), .val (.int (1 : Int32))] [(.long (el sl 4))]))
          refine Go.st (fun _ => XS.aloadN X0.here C.hx rfl (hb C.hby d4_133) rfl rfl) ?_
          show Go p e below s n0 _ _ _ (T0.setTop (mkF m 134 #[.val (.ref a1), .val (.int (6 : Int32)), .val (.int (5 : Int32)), .val (.int (1 : Int32)), .val (.int (1 : Int32))] [(.ref a1), (.long (el sl 4))]))
          refine Go.st (fun _ => XS.iloadN X0.here C.hx rfl (hb C.hby d4_134) rfl) ?_
          show Go p e below s n0 _ _ _ (T0.setTop (mkF m 135 #[.val (.ref a1), .val (.int (6 : Int32)), .val (.int (5 : Int32)), .val (.int (1 : Int32)), .val (.int (1 : Int32))] [(.int (1 : Int32)), (.ref a1), (.long (el sl 4))]))
          refine Go.st (fun _ => XS.iconst X0.here C.hx rfl (hb C.hby d4_135)) ?_
          show Go p e below s n0 _ _ _ (T0.setTop (mkF m 136 #[.val (.ref a1), .val (.int (6 : Int32)), .val (.int (5 : Int32)), .val (.int (1 : Int32)), .val (.int (1 : Int32))] [(.int (4 : Int32)), (.int (1 : Int32)), (.ref a1), (.long (el sl 4))]))
          refine Go.st (fun _ => XS.iadd X0.here C.hx rfl (hb C.hby d4_136) rfl) ?_
          show Go p e below s n0 _ _ _ (T0.setTop (mkF m 137 #[.val (.ref a1), .val (.int (6 : Int32)), .val (.int (5 : Int32)), .val (.int (1 : Int32)), .val (.int (1 : Int32))] [(.int (5 : Int32)), (.ref a1), (.long (el sl 4))]))
          refine Go.laload C X0 A1 (by decide) (getL (i := 5) hs (by decide)) d4_137 ?_
          show Go p e below s n0 _ _ _ (T0.setTop (mkF m 138 #[.val (.ref a1), .val (.int (6 : Int32)), .val (.int (5 : Int32)), .val (.int (1 : Int32)), .val (.int (1 : Int32))] [(.long (el sl 5)), (.long (el sl 4))]))
          refine Go.st (fun _ => XS.lcmp X0.here C.hx rfl (hb C.hby d4_138) rfl) ?_
          show Go p e below s n0 _ _ _ (T0.setTop (mkF m 139 #[.val (.ref a1), .val (.int (6 : Int32)), .val (.int (5 : Int32)), .val (.int (1 : Int32)), .val (.int (1 : Int32))] [(.int (lcmpW (el sl 4) (el sl 5)))]))
          refine Go.lif_ne C X0 (pc' := 146) d4_139 (by decide) (by decide) (fun hc139_396 => ?_) (fun hc139_396 => ?_)
          · show Go p e below s n0 _ _ _ (T0.setTop (mkF m 146 #[.val (.ref a1), .val (.int (6 : Int32)), .val (.int (5 : Int32)), .val (.int (1 : Int32)), .val (.int (1 : Int32))] []))
            refine Go.st (fun _ => XS.iconst X0.here C.hx rfl (hb C.hby d4_146)) ?_
            show Go p e below s n0 _ _ _ (T0.setTop (mkF m 147 #[.val (.ref a1), .val (.int (6 : Int32)), .val (.int (5 : Int32)), .val (.int (1 : Int32)), .val (.int (1 : Int32))] [(.int (0 : Int32))]))
            refine Go.st (fun _ => XS.istore X0.here C.hx rfl (hb C.hby d4_147) rfl (l' := #[.val (.ref a1), .val (.int (6 : Int32)), .val (.int (5 : Int32)), .val (.int (1 : Int32)), .val (.int (0 : Int32))]) rfl) ?_
            show Go p e below s n0 _ _ _ (T0.setTop (mkF m 149 #[.val (.ref a1), .val (.int (6 : Int32)), .val (.int (5 : Int32)), .val (.int (1 : Int32)), .val (.int (0 : Int32))] []))
            refine Go.st (fun _ => XS.iload X0.here C.hx rfl (hb C.hby d4_149) rfl) ?_
            show Go p e below s n0 _ _ _ (T0.setTop (mkF m 151 #[.val (.ref a1), .val (.int (6 : Int32)), .val (.int (5 : Int32)), .val (.int (1 : Int32)), .val (.int (0 : Int32))] [(.int (0 : Int32))]))
            exact Go.retZ C X0 (by decide) d4_151 ⟨by simp [b2i, sameE, Esl, List.range_succ, hc23_364, hc52_375, hc81_384, hc110_391, hc139_396], rfl⟩ (by decide) (by decide)
          · show Go p e below s n0 _ _ _ (T0.setTop (mkF m 142 #[.val (.ref a1), .val (.int (6 : Int32)), .val (.int (5 : Int32)), .val (.int (1 : Int32)), .val (.int (1 : Int32))] []))
            refine Go.st (fun _ => XS.iconst X0.here C.hx rfl (hb C.hby d4_142)) ?_
            show Go p e below s n0 _ _ _ (T0.setTop (mkF m 143 #[.val (.ref a1), .val (.int (6 : Int32)), .val (.int (5 : Int32)), .val (.int (1 : Int32)), .val (.int (1 : Int32))] [(.int (1 : Int32))]))
            refine Go.st (fun _ => XS.goto X0.here C.hx rfl (pc0 := 143) (pc' := 147) rfl (hb C.hby d4_143) (by decide) (by decide)) ?_
            show Go p e below s n0 _ _ _ (T0.setTop (mkF m 147 #[.val (.ref a1), .val (.int (6 : Int32)), .val (.int (5 : Int32)), .val (.int (1 : Int32)), .val (.int (1 : Int32))] [(.int (1 : Int32))]))
            refine Go.st (fun _ => XS.istore X0.here C.hx rfl (hb C.hby d4_147) rfl (l' := #[.val (.ref a1), .val (.int (6 : Int32)), .val (.int (5 : Int32)), .val (.int (1 : Int32)), .val (.int (1 : Int32))]) rfl) ?_
            show Go p e below s n0 _ _ _ (T0.setTop (mkF m 149 #[.val (.ref a1), .val (.int (6 : Int32)), .val (.int (5 : Int32)), .val (.int (1 : Int32)), .val (.int (1 : Int32))] []))
            refine Go.st (fun _ => XS.iload X0.here C.hx rfl (hb C.hby d4_149) rfl) ?_
            show Go p e below s n0 _ _ _ (T0.setTop (mkF m 151 #[.val (.ref a1), .val (.int (6 : Int32)), .val (.int (5 : Int32)), .val (.int (1 : Int32)), .val (.int (1 : Int32))] [(.int (1 : Int32))]))
            exact Go.retZ C X0 (by decide) d4_151 ⟨by simp [b2i, sameE, Esl, List.range_succ, hc23_364, hc52_375, hc81_384, hc110_391, hc139_396], rfl⟩ (by decide) (by decide)
theorem d3_0 : decode method_4_code 0 = .ok (.iload_n 1, 1) := by decide +kernel
theorem d3_1 : decode method_4_code 1 = .ok (.iconst 5, 1) := by decide +kernel
theorem d3_2 : decode method_4_code 2 = .ok (.if_icmp .le 14, 3) := by decide +kernel
theorem d3_5 : decode method_4_code 5 = .ok (.aload_n 0, 1) := by decide +kernel
theorem d3_6 : decode method_4_code 6 = .ok (.iload_n 1, 1) := by decide +kernel
theorem d3_7 : decode method_4_code 7 = .ok (.iconst 5, 1) := by decide +kernel
theorem d3_8 : decode method_4_code 8 = .ok (.invokestatic 9, 3) := by decide +kernel
theorem d3_11 : decode method_4_code 11 = .ok (.ifCond .eq 5, 3) := by decide +kernel
theorem d3_14 : decode method_4_code 14 = .ok (.iconst 5, 1) := by decide +kernel
theorem d3_15 : decode method_4_code 15 = .ok (.ireturn, 1) := by decide +kernel
theorem d3_16 : decode method_4_code 16 = .ok (.iload_n 1, 1) := by decide +kernel
theorem d3_17 : decode method_4_code 17 = .ok (.iconst 4, 1) := by decide +kernel
theorem d3_18 : decode method_4_code 18 = .ok (.if_icmp .le 14, 3) := by decide +kernel
theorem d3_21 : decode method_4_code 21 = .ok (.aload_n 0, 1) := by decide +kernel
theorem d3_22 : decode method_4_code 22 = .ok (.iload_n 1, 1) := by decide +kernel
theorem d3_23 : decode method_4_code 23 = .ok (.iconst 4, 1) := by decide +kernel
theorem d3_24 : decode method_4_code 24 = .ok (.invokestatic 9, 3) := by decide +kernel
theorem d3_27 : decode method_4_code 27 = .ok (.ifCond .eq 5, 3) := by decide +kernel
theorem d3_30 : decode method_4_code 30 = .ok (.iconst 4, 1) := by decide +kernel
theorem d3_31 : decode method_4_code 31 = .ok (.ireturn, 1) := by decide +kernel
theorem d3_32 : decode method_4_code 32 = .ok (.iload_n 1, 1) := by decide +kernel
theorem d3_33 : decode method_4_code 33 = .ok (.iconst 3, 1) := by decide +kernel
theorem d3_34 : decode method_4_code 34 = .ok (.if_icmp .le 14, 3) := by decide +kernel
theorem d3_37 : decode method_4_code 37 = .ok (.aload_n 0, 1) := by decide +kernel
theorem d3_38 : decode method_4_code 38 = .ok (.iload_n 1, 1) := by decide +kernel
theorem d3_39 : decode method_4_code 39 = .ok (.iconst 3, 1) := by decide +kernel
theorem d3_40 : decode method_4_code 40 = .ok (.invokestatic 9, 3) := by decide +kernel
theorem d3_43 : decode method_4_code 43 = .ok (.ifCond .eq 5, 3) := by decide +kernel
theorem d3_46 : decode method_4_code 46 = .ok (.iconst 3, 1) := by decide +kernel
theorem d3_47 : decode method_4_code 47 = .ok (.ireturn, 1) := by decide +kernel
theorem d3_48 : decode method_4_code 48 = .ok (.iload_n 1, 1) := by decide +kernel
theorem d3_49 : decode method_4_code 49 = .ok (.iconst 2, 1) := by decide +kernel
theorem d3_50 : decode method_4_code 50 = .ok (.if_icmp .le 14, 3) := by decide +kernel
theorem d3_53 : decode method_4_code 53 = .ok (.aload_n 0, 1) := by decide +kernel
theorem d3_54 : decode method_4_code 54 = .ok (.iload_n 1, 1) := by decide +kernel
theorem d3_55 : decode method_4_code 55 = .ok (.iconst 2, 1) := by decide +kernel
theorem d3_56 : decode method_4_code 56 = .ok (.invokestatic 9, 3) := by decide +kernel
theorem d3_59 : decode method_4_code 59 = .ok (.ifCond .eq 5, 3) := by decide +kernel
theorem d3_62 : decode method_4_code 62 = .ok (.iconst 2, 1) := by decide +kernel
theorem d3_63 : decode method_4_code 63 = .ok (.ireturn, 1) := by decide +kernel
theorem d3_64 : decode method_4_code 64 = .ok (.iload_n 1, 1) := by decide +kernel
theorem d3_65 : decode method_4_code 65 = .ok (.iconst 1, 1) := by decide +kernel
theorem d3_66 : decode method_4_code 66 = .ok (.if_icmp .le 14, 3) := by decide +kernel
theorem d3_69 : decode method_4_code 69 = .ok (.aload_n 0, 1) := by decide +kernel
theorem d3_70 : decode method_4_code 70 = .ok (.iload_n 1, 1) := by decide +kernel
theorem d3_71 : decode method_4_code 71 = .ok (.iconst 1, 1) := by decide +kernel
theorem d3_72 : decode method_4_code 72 = .ok (.invokestatic 9, 3) := by decide +kernel
theorem d3_75 : decode method_4_code 75 = .ok (.ifCond .eq 5, 3) := by decide +kernel
theorem d3_78 : decode method_4_code 78 = .ok (.iconst 1, 1) := by decide +kernel
theorem d3_79 : decode method_4_code 79 = .ok (.ireturn, 1) := by decide +kernel
theorem d3_80 : decode method_4_code 80 = .ok (.iconst 0, 1) := by decide +kernel
theorem d3_81 : decode method_4_code 81 = .ok (.ireturn, 1) := by decide +kernel
theorem pf_3 : plainFor (⟨"com/example/orderly_ring/orderlyring/model/SequencesExtendBordersPinLaw", "border", "([JI)I"⟩ : MethodName) = true := plainFor_of_name (by first | (simp [plainName, overriddenIn]; done) | decide +kernel)
theorem pd_3 : parseMethodDescriptor "([JI)I" = some ⟨[(.array .long), .int], some .int⟩ := by decide +kernel
set_option maxRecDepth 65536 in
set_option maxHeartbeats 40000000 in
theorem con_border_1 (l : Launch) (Z : State) (a0 : Array Value) (hw : ∀ d ∈ tables_1, d.before a0 Z = true) (n0 : Nat) (h0 : Heap) (Z0 : n0 ≤ h0.size) (a1 : Addr) (sl : List Int64) (hs : sl.length = 6) (A1 : AR Z h0 a1 .long (sl.map Value.long)) :
    Con l Z (⟨"com/example/orderly_ring/orderlyring/model/SequencesExtendBordersPinLaw", "border", "([JI)I"⟩ : MethodName) method_4_code 2 (some .int) [] ({ frames := 1, cells := 0, slots := 0, locals := 16 } : Room) n0 #[(.ref a1), (.int (1 : Int32))] h0 (fun v h => v = some (.int (bordE (Esl sl) 1).toInt32) ∧ h = h0) := by
  refine Con.mk pf_3 hw Z0 ?_
  intro p e s m below meth c T0 C X0
  have ef : entryFrame m #[(.ref a1), (.int (1 : Int32))] 2 = mkF m 0 #[.val (.ref a1), .val (.int (1 : Int32))] [] := by first | (simp [entryFrame, mkF, argsToLocals, Value.category]; done) | rfl
  rw [ef]
  show Go p e below s n0 _ _ _ (T0.setTop (mkF m 0 #[.val (.ref a1), .val (.int (1 : Int32))] []))
  refine Go.st (fun _ => XS.iloadN X0.here C.hx rfl (hb C.hby d3_0) rfl) ?_
  show Go p e below s n0 _ _ _ (T0.setTop (mkF m 1 #[.val (.ref a1), .val (.int (1 : Int32))] [(.int (1 : Int32))]))
  refine Go.st (fun _ => XS.iconst X0.here C.hx rfl (hb C.hby d3_1)) ?_
  show Go p e below s n0 _ _ _ (T0.setTop (mkF m 2 #[.val (.ref a1), .val (.int (1 : Int32))] [(.int (5 : Int32)), (.int (1 : Int32))]))
  refine Go.icmp_le C X0 (pc' := 16) d3_2 (by decide) (by decide) (fun _ => ?_) (fun hc => absurd hc (by decide))
  show Go p e below s n0 _ _ _ (T0.setTop (mkF m 16 #[.val (.ref a1), .val (.int (1 : Int32))] []))
  refine Go.st (fun _ => XS.iloadN X0.here C.hx rfl (hb C.hby d3_16) rfl) ?_
  show Go p e below s n0 _ _ _ (T0.setTop (mkF m 17 #[.val (.ref a1), .val (.int (1 : Int32))] [(.int (1 : Int32))]))
  refine Go.st (fun _ => XS.iconst X0.here C.hx rfl (hb C.hby d3_17)) ?_
  show Go p e below s n0 _ _ _ (T0.setTop (mkF m 18 #[.val (.ref a1), .val (.int (1 : Int32))] [(.int (4 : Int32)), (.int (1 : Int32))]))
  refine Go.icmp_le C X0 (pc' := 32) d3_18 (by decide) (by decide) (fun _ => ?_) (fun hc => absurd hc (by decide))
  show Go p e below s n0 _ _ _ (T0.setTop (mkF m 32 #[.val (.ref a1), .val (.int (1 : Int32))] []))
  refine Go.st (fun _ => XS.iloadN X0.here C.hx rfl (hb C.hby d3_32) rfl) ?_
  show Go p e below s n0 _ _ _ (T0.setTop (mkF m 33 #[.val (.ref a1), .val (.int (1 : Int32))] [(.int (1 : Int32))]))
  refine Go.st (fun _ => XS.iconst X0.here C.hx rfl (hb C.hby d3_33)) ?_
  show Go p e below s n0 _ _ _ (T0.setTop (mkF m 34 #[.val (.ref a1), .val (.int (1 : Int32))] [(.int (3 : Int32)), (.int (1 : Int32))]))
  refine Go.icmp_le C X0 (pc' := 48) d3_34 (by decide) (by decide) (fun _ => ?_) (fun hc => absurd hc (by decide))
  show Go p e below s n0 _ _ _ (T0.setTop (mkF m 48 #[.val (.ref a1), .val (.int (1 : Int32))] []))
  refine Go.st (fun _ => XS.iloadN X0.here C.hx rfl (hb C.hby d3_48) rfl) ?_
  show Go p e below s n0 _ _ _ (T0.setTop (mkF m 49 #[.val (.ref a1), .val (.int (1 : Int32))] [(.int (1 : Int32))]))
  refine Go.st (fun _ => XS.iconst X0.here C.hx rfl (hb C.hby d3_49)) ?_
  show Go p e below s n0 _ _ _ (T0.setTop (mkF m 50 #[.val (.ref a1), .val (.int (1 : Int32))] [(.int (2 : Int32)), (.int (1 : Int32))]))
  refine Go.icmp_le C X0 (pc' := 64) d3_50 (by decide) (by decide) (fun _ => ?_) (fun hc => absurd hc (by decide))
  show Go p e below s n0 _ _ _ (T0.setTop (mkF m 64 #[.val (.ref a1), .val (.int (1 : Int32))] []))
  refine Go.st (fun _ => XS.iloadN X0.here C.hx rfl (hb C.hby d3_64) rfl) ?_
  show Go p e below s n0 _ _ _ (T0.setTop (mkF m 65 #[.val (.ref a1), .val (.int (1 : Int32))] [(.int (1 : Int32))]))
  refine Go.st (fun _ => XS.iconst X0.here C.hx rfl (hb C.hby d3_65)) ?_
  show Go p e below s n0 _ _ _ (T0.setTop (mkF m 66 #[.val (.ref a1), .val (.int (1 : Int32))] [(.int (1 : Int32)), (.int (1 : Int32))]))
  refine Go.icmp_le C X0 (pc' := 80) d3_66 (by decide) (by decide) (fun _ => ?_) (fun hc => absurd hc (by decide))
  show Go p e below s n0 _ _ _ (T0.setTop (mkF m 80 #[.val (.ref a1), .val (.int (1 : Int32))] []))
  refine Go.st (fun _ => XS.iconst X0.here C.hx rfl (hb C.hby d3_80)) ?_
  show Go p e below s n0 _ _ _ (T0.setTop (mkF m 81 #[.val (.ref a1), .val (.int (1 : Int32))] [(.int (0 : Int32))]))
  exact Go.retI C X0 d3_81 ⟨by simp +decide [bordE]; try rfl, rfl⟩ (by decide) (by decide)
set_option maxRecDepth 65536 in
set_option maxHeartbeats 40000000 in
theorem con_border_2 (l : Launch) (Z : State) (a0 : Array Value) (hw : ∀ d ∈ tables_1, d.before a0 Z = true) (n0 : Nat) (h0 : Heap) (Z0 : n0 ≤ h0.size) (a1 : Addr) (sl : List Int64) (hs : sl.length = 6) (A1 : AR Z h0 a1 .long (sl.map Value.long)) :
    Con l Z (⟨"com/example/orderly_ring/orderlyring/model/SequencesExtendBordersPinLaw", "border", "([JI)I"⟩ : MethodName) method_4_code 2 (some .int) [] ({ frames := 1, cells := 0, slots := 0, locals := 16 } : Room) n0 #[(.ref a1), (.int (2 : Int32))] h0 (fun v h => v = some (.int (bordE (Esl sl) 2).toInt32) ∧ h = h0) := by
  refine Con.mk pf_3 hw Z0 ?_
  intro p e s m below meth c T0 C X0
  have ef : entryFrame m #[(.ref a1), (.int (2 : Int32))] 2 = mkF m 0 #[.val (.ref a1), .val (.int (2 : Int32))] [] := by first | (simp [entryFrame, mkF, argsToLocals, Value.category]; done) | rfl
  rw [ef]
  show Go p e below s n0 _ _ _ (T0.setTop (mkF m 0 #[.val (.ref a1), .val (.int (2 : Int32))] []))
  refine Go.st (fun _ => XS.iloadN X0.here C.hx rfl (hb C.hby d3_0) rfl) ?_
  show Go p e below s n0 _ _ _ (T0.setTop (mkF m 1 #[.val (.ref a1), .val (.int (2 : Int32))] [(.int (2 : Int32))]))
  refine Go.st (fun _ => XS.iconst X0.here C.hx rfl (hb C.hby d3_1)) ?_
  show Go p e below s n0 _ _ _ (T0.setTop (mkF m 2 #[.val (.ref a1), .val (.int (2 : Int32))] [(.int (5 : Int32)), (.int (2 : Int32))]))
  refine Go.icmp_le C X0 (pc' := 16) d3_2 (by decide) (by decide) (fun _ => ?_) (fun hc => absurd hc (by decide))
  show Go p e below s n0 _ _ _ (T0.setTop (mkF m 16 #[.val (.ref a1), .val (.int (2 : Int32))] []))
  refine Go.st (fun _ => XS.iloadN X0.here C.hx rfl (hb C.hby d3_16) rfl) ?_
  show Go p e below s n0 _ _ _ (T0.setTop (mkF m 17 #[.val (.ref a1), .val (.int (2 : Int32))] [(.int (2 : Int32))]))
  refine Go.st (fun _ => XS.iconst X0.here C.hx rfl (hb C.hby d3_17)) ?_
  show Go p e below s n0 _ _ _ (T0.setTop (mkF m 18 #[.val (.ref a1), .val (.int (2 : Int32))] [(.int (4 : Int32)), (.int (2 : Int32))]))
  refine Go.icmp_le C X0 (pc' := 32) d3_18 (by decide) (by decide) (fun _ => ?_) (fun hc => absurd hc (by decide))
  show Go p e below s n0 _ _ _ (T0.setTop (mkF m 32 #[.val (.ref a1), .val (.int (2 : Int32))] []))
  refine Go.st (fun _ => XS.iloadN X0.here C.hx rfl (hb C.hby d3_32) rfl) ?_
  show Go p e below s n0 _ _ _ (T0.setTop (mkF m 33 #[.val (.ref a1), .val (.int (2 : Int32))] [(.int (2 : Int32))]))
  refine Go.st (fun _ => XS.iconst X0.here C.hx rfl (hb C.hby d3_33)) ?_
  show Go p e below s n0 _ _ _ (T0.setTop (mkF m 34 #[.val (.ref a1), .val (.int (2 : Int32))] [(.int (3 : Int32)), (.int (2 : Int32))]))
  refine Go.icmp_le C X0 (pc' := 48) d3_34 (by decide) (by decide) (fun _ => ?_) (fun hc => absurd hc (by decide))
  show Go p e below s n0 _ _ _ (T0.setTop (mkF m 48 #[.val (.ref a1), .val (.int (2 : Int32))] []))
  refine Go.st (fun _ => XS.iloadN X0.here C.hx rfl (hb C.hby d3_48) rfl) ?_
  show Go p e below s n0 _ _ _ (T0.setTop (mkF m 49 #[.val (.ref a1), .val (.int (2 : Int32))] [(.int (2 : Int32))]))
  refine Go.st (fun _ => XS.iconst X0.here C.hx rfl (hb C.hby d3_49)) ?_
  show Go p e below s n0 _ _ _ (T0.setTop (mkF m 50 #[.val (.ref a1), .val (.int (2 : Int32))] [(.int (2 : Int32)), (.int (2 : Int32))]))
  refine Go.icmp_le C X0 (pc' := 64) d3_50 (by decide) (by decide) (fun _ => ?_) (fun hc => absurd hc (by decide))
  show Go p e below s n0 _ _ _ (T0.setTop (mkF m 64 #[.val (.ref a1), .val (.int (2 : Int32))] []))
  refine Go.st (fun _ => XS.iloadN X0.here C.hx rfl (hb C.hby d3_64) rfl) ?_
  show Go p e below s n0 _ _ _ (T0.setTop (mkF m 65 #[.val (.ref a1), .val (.int (2 : Int32))] [(.int (2 : Int32))]))
  refine Go.st (fun _ => XS.iconst X0.here C.hx rfl (hb C.hby d3_65)) ?_
  show Go p e below s n0 _ _ _ (T0.setTop (mkF m 66 #[.val (.ref a1), .val (.int (2 : Int32))] [(.int (1 : Int32)), (.int (2 : Int32))]))
  refine Go.icmp_le C X0 (pc' := 80) d3_66 (by decide) (by decide) (fun hc => absurd hc (by decide)) (fun _ => ?_)
  show Go p e below s n0 _ _ _ (T0.setTop (mkF m 69 #[.val (.ref a1), .val (.int (2 : Int32))] []))
  refine Go.st (fun _ => XS.aloadN X0.here C.hx rfl (hb C.hby d3_69) rfl rfl) ?_
  show Go p e below s n0 _ _ _ (T0.setTop (mkF m 70 #[.val (.ref a1), .val (.int (2 : Int32))] [(.ref a1)]))
  refine Go.st (fun _ => XS.iloadN X0.here C.hx rfl (hb C.hby d3_70) rfl) ?_
  show Go p e below s n0 _ _ _ (T0.setTop (mkF m 71 #[.val (.ref a1), .val (.int (2 : Int32))] [(.int (2 : Int32)), (.ref a1)]))
  refine Go.st (fun _ => XS.iconst X0.here C.hx rfl (hb C.hby d3_71)) ?_
  show Go p e below s n0 _ _ _ (T0.setTop (mkF m 72 #[.val (.ref a1), .val (.int (2 : Int32))] [(.int (1 : Int32)), (.int (2 : Int32)), (.ref a1)]))
  refine Go.callS C X0 (W := 0) (argsL := [(.ref a1), (.int (2 : Int32)), (.int (1 : Int32))]) (rest := []) (wd 13 rfl) (wd 14 rfl) (wd 3 rfl) (wd 15 rfl) (by decide) (con_same_2_1 l Z a0 hw n0 h0 X0.size a1 sl hs A1) (by decide) (by decide) rfl (lenOf pd_4 rfl) (Nat.le_of_ble_eq_true rfl) rfl d3_72 (by decide) (by decide) (fun T407 h407 v407 X407 hQ407 => ?_)
  obtain ⟨rfl, hh407⟩ := hQ407
  rw [hh407] at X407
  show Go p e below s n0 _ _ _ (T407.setTop (mkF m 75 #[.val (.ref a1), .val (.int (2 : Int32))] [(.int (b2i (sameE (Esl sl) 2 1)))]))
  refine Go.if_eq C X407 (pc' := 80) d3_75 (by decide) (by decide) (fun hc75_408 => ?_) (fun hc75_408 => ?_)
  · show Go p e below s n0 _ _ _ (T407.setTop (mkF m 80 #[.val (.ref a1), .val (.int (2 : Int32))] []))
    refine Go.st (fun _ => XS.iconst X407.here C.hx rfl (hb C.hby d3_80)) ?_
    show Go p e below s n0 _ _ _ (T407.setTop (mkF m 81 #[.val (.ref a1), .val (.int (2 : Int32))] [(.int (0 : Int32))]))
    exact Go.retI C X407 d3_81 ⟨by simp +decide [bordE, b2f hc75_408]; try rfl, rfl⟩ (by decide) (by decide)
  · show Go p e below s n0 _ _ _ (T407.setTop (mkF m 78 #[.val (.ref a1), .val (.int (2 : Int32))] []))
    refine Go.st (fun _ => XS.iconst X407.here C.hx rfl (hb C.hby d3_78)) ?_
    show Go p e below s n0 _ _ _ (T407.setTop (mkF m 79 #[.val (.ref a1), .val (.int (2 : Int32))] [(.int (1 : Int32))]))
    exact Go.retI C X407 d3_79 ⟨by simp +decide [bordE, b2t hc75_408]; try rfl, rfl⟩ (by decide) (by decide)
set_option maxRecDepth 65536 in
set_option maxHeartbeats 40000000 in
theorem con_border_3 (l : Launch) (Z : State) (a0 : Array Value) (hw : ∀ d ∈ tables_1, d.before a0 Z = true) (n0 : Nat) (h0 : Heap) (Z0 : n0 ≤ h0.size) (a1 : Addr) (sl : List Int64) (hs : sl.length = 6) (A1 : AR Z h0 a1 .long (sl.map Value.long)) :
    Con l Z (⟨"com/example/orderly_ring/orderlyring/model/SequencesExtendBordersPinLaw", "border", "([JI)I"⟩ : MethodName) method_4_code 2 (some .int) [] ({ frames := 1, cells := 0, slots := 0, locals := 16 } : Room) n0 #[(.ref a1), (.int (3 : Int32))] h0 (fun v h => v = some (.int (bordE (Esl sl) 3).toInt32) ∧ h = h0) := by
  refine Con.mk pf_3 hw Z0 ?_
  intro p e s m below meth c T0 C X0
  have ef : entryFrame m #[(.ref a1), (.int (3 : Int32))] 2 = mkF m 0 #[.val (.ref a1), .val (.int (3 : Int32))] [] := by first | (simp [entryFrame, mkF, argsToLocals, Value.category]; done) | rfl
  rw [ef]
  show Go p e below s n0 _ _ _ (T0.setTop (mkF m 0 #[.val (.ref a1), .val (.int (3 : Int32))] []))
  refine Go.st (fun _ => XS.iloadN X0.here C.hx rfl (hb C.hby d3_0) rfl) ?_
  show Go p e below s n0 _ _ _ (T0.setTop (mkF m 1 #[.val (.ref a1), .val (.int (3 : Int32))] [(.int (3 : Int32))]))
  refine Go.st (fun _ => XS.iconst X0.here C.hx rfl (hb C.hby d3_1)) ?_
  show Go p e below s n0 _ _ _ (T0.setTop (mkF m 2 #[.val (.ref a1), .val (.int (3 : Int32))] [(.int (5 : Int32)), (.int (3 : Int32))]))
  refine Go.icmp_le C X0 (pc' := 16) d3_2 (by decide) (by decide) (fun _ => ?_) (fun hc => absurd hc (by decide))
  show Go p e below s n0 _ _ _ (T0.setTop (mkF m 16 #[.val (.ref a1), .val (.int (3 : Int32))] []))
  refine Go.st (fun _ => XS.iloadN X0.here C.hx rfl (hb C.hby d3_16) rfl) ?_
  show Go p e below s n0 _ _ _ (T0.setTop (mkF m 17 #[.val (.ref a1), .val (.int (3 : Int32))] [(.int (3 : Int32))]))
  refine Go.st (fun _ => XS.iconst X0.here C.hx rfl (hb C.hby d3_17)) ?_
  show Go p e below s n0 _ _ _ (T0.setTop (mkF m 18 #[.val (.ref a1), .val (.int (3 : Int32))] [(.int (4 : Int32)), (.int (3 : Int32))]))
  refine Go.icmp_le C X0 (pc' := 32) d3_18 (by decide) (by decide) (fun _ => ?_) (fun hc => absurd hc (by decide))
  show Go p e below s n0 _ _ _ (T0.setTop (mkF m 32 #[.val (.ref a1), .val (.int (3 : Int32))] []))
  refine Go.st (fun _ => XS.iloadN X0.here C.hx rfl (hb C.hby d3_32) rfl) ?_
  show Go p e below s n0 _ _ _ (T0.setTop (mkF m 33 #[.val (.ref a1), .val (.int (3 : Int32))] [(.int (3 : Int32))]))
  refine Go.st (fun _ => XS.iconst X0.here C.hx rfl (hb C.hby d3_33)) ?_
  show Go p e below s n0 _ _ _ (T0.setTop (mkF m 34 #[.val (.ref a1), .val (.int (3 : Int32))] [(.int (3 : Int32)), (.int (3 : Int32))]))
  refine Go.icmp_le C X0 (pc' := 48) d3_34 (by decide) (by decide) (fun _ => ?_) (fun hc => absurd hc (by decide))
  show Go p e below s n0 _ _ _ (T0.setTop (mkF m 48 #[.val (.ref a1), .val (.int (3 : Int32))] []))
  refine Go.st (fun _ => XS.iloadN X0.here C.hx rfl (hb C.hby d3_48) rfl) ?_
  show Go p e below s n0 _ _ _ (T0.setTop (mkF m 49 #[.val (.ref a1), .val (.int (3 : Int32))] [(.int (3 : Int32))]))
  refine Go.st (fun _ => XS.iconst X0.here C.hx rfl (hb C.hby d3_49)) ?_
  show Go p e below s n0 _ _ _ (T0.setTop (mkF m 50 #[.val (.ref a1), .val (.int (3 : Int32))] [(.int (2 : Int32)), (.int (3 : Int32))]))
  refine Go.icmp_le C X0 (pc' := 64) d3_50 (by decide) (by decide) (fun hc => absurd hc (by decide)) (fun _ => ?_)
  show Go p e below s n0 _ _ _ (T0.setTop (mkF m 53 #[.val (.ref a1), .val (.int (3 : Int32))] []))
  refine Go.st (fun _ => XS.aloadN X0.here C.hx rfl (hb C.hby d3_53) rfl rfl) ?_
  show Go p e below s n0 _ _ _ (T0.setTop (mkF m 54 #[.val (.ref a1), .val (.int (3 : Int32))] [(.ref a1)]))
  refine Go.st (fun _ => XS.iloadN X0.here C.hx rfl (hb C.hby d3_54) rfl) ?_
  show Go p e below s n0 _ _ _ (T0.setTop (mkF m 55 #[.val (.ref a1), .val (.int (3 : Int32))] [(.int (3 : Int32)), (.ref a1)]))
  refine Go.st (fun _ => XS.iconst X0.here C.hx rfl (hb C.hby d3_55)) ?_
  show Go p e below s n0 _ _ _ (T0.setTop (mkF m 56 #[.val (.ref a1), .val (.int (3 : Int32))] [(.int (2 : Int32)), (.int (3 : Int32)), (.ref a1)]))
  refine Go.callS C X0 (W := 0) (argsL := [(.ref a1), (.int (3 : Int32)), (.int (2 : Int32))]) (rest := []) (wd 13 rfl) (wd 14 rfl) (wd 3 rfl) (wd 15 rfl) (by decide) (con_same_3_2 l Z a0 hw n0 h0 X0.size a1 sl hs A1) (by decide) (by decide) rfl (lenOf pd_4 rfl) (Nat.le_of_ble_eq_true rfl) rfl d3_56 (by decide) (by decide) (fun T413 h413 v413 X413 hQ413 => ?_)
  obtain ⟨rfl, hh413⟩ := hQ413
  rw [hh413] at X413
  show Go p e below s n0 _ _ _ (T413.setTop (mkF m 59 #[.val (.ref a1), .val (.int (3 : Int32))] [(.int (b2i (sameE (Esl sl) 3 2)))]))
  refine Go.if_eq C X413 (pc' := 64) d3_59 (by decide) (by decide) (fun hc59_414 => ?_) (fun hc59_414 => ?_)
  · show Go p e below s n0 _ _ _ (T413.setTop (mkF m 64 #[.val (.ref a1), .val (.int (3 : Int32))] []))
    refine Go.st (fun _ => XS.iloadN X413.here C.hx rfl (hb C.hby d3_64) rfl) ?_
    show Go p e below s n0 _ _ _ (T413.setTop (mkF m 65 #[.val (.ref a1), .val (.int (3 : Int32))] [(.int (3 : Int32))]))
    refine Go.st (fun _ => XS.iconst X413.here C.hx rfl (hb C.hby d3_65)) ?_
    show Go p e below s n0 _ _ _ (T413.setTop (mkF m 66 #[.val (.ref a1), .val (.int (3 : Int32))] [(.int (1 : Int32)), (.int (3 : Int32))]))
    refine Go.icmp_le C X413 (pc' := 80) d3_66 (by decide) (by decide) (fun hc => absurd hc (by decide)) (fun _ => ?_)
    show Go p e below s n0 _ _ _ (T413.setTop (mkF m 69 #[.val (.ref a1), .val (.int (3 : Int32))] []))
    refine Go.st (fun _ => XS.aloadN X413.here C.hx rfl (hb C.hby d3_69) rfl rfl) ?_
    show Go p e below s n0 _ _ _ (T413.setTop (mkF m 70 #[.val (.ref a1), .val (.int (3 : Int32))] [(.ref a1)]))
    refine Go.st (fun _ => XS.iloadN X413.here C.hx rfl (hb C.hby d3_70) rfl) ?_
    show Go p e below s n0 _ _ _ (T413.setTop (mkF m 71 #[.val (.ref a1), .val (.int (3 : Int32))] [(.int (3 : Int32)), (.ref a1)]))
    refine Go.st (fun _ => XS.iconst X413.here C.hx rfl (hb C.hby d3_71)) ?_
    show Go p e below s n0 _ _ _ (T413.setTop (mkF m 72 #[.val (.ref a1), .val (.int (3 : Int32))] [(.int (1 : Int32)), (.int (3 : Int32)), (.ref a1)]))
    refine Go.callS C X413 (W := 0) (argsL := [(.ref a1), (.int (3 : Int32)), (.int (1 : Int32))]) (rest := []) (wd 13 rfl) (wd 14 rfl) (wd 3 rfl) (wd 15 rfl) (by decide) (con_same_3_1 l Z a0 hw n0 h0 X413.size a1 sl hs A1) (by decide) (by decide) rfl (lenOf pd_4 rfl) (Nat.le_of_ble_eq_true rfl) rfl d3_72 (by decide) (by decide) (fun T416 h416 v416 X416 hQ416 => ?_)
    obtain ⟨rfl, hh416⟩ := hQ416
    rw [hh416] at X416
    show Go p e below s n0 _ _ _ (T416.setTop (mkF m 75 #[.val (.ref a1), .val (.int (3 : Int32))] [(.int (b2i (sameE (Esl sl) 3 1)))]))
    refine Go.if_eq C X416 (pc' := 80) d3_75 (by decide) (by decide) (fun hc75_417 => ?_) (fun hc75_417 => ?_)
    · show Go p e below s n0 _ _ _ (T416.setTop (mkF m 80 #[.val (.ref a1), .val (.int (3 : Int32))] []))
      refine Go.st (fun _ => XS.iconst X416.here C.hx rfl (hb C.hby d3_80)) ?_
      show Go p e below s n0 _ _ _ (T416.setTop (mkF m 81 #[.val (.ref a1), .val (.int (3 : Int32))] [(.int (0 : Int32))]))
      exact Go.retI C X416 d3_81 ⟨by simp +decide [bordE, b2f hc59_414, b2f hc75_417]; try rfl, rfl⟩ (by decide) (by decide)
    · show Go p e below s n0 _ _ _ (T416.setTop (mkF m 78 #[.val (.ref a1), .val (.int (3 : Int32))] []))
      refine Go.st (fun _ => XS.iconst X416.here C.hx rfl (hb C.hby d3_78)) ?_
      show Go p e below s n0 _ _ _ (T416.setTop (mkF m 79 #[.val (.ref a1), .val (.int (3 : Int32))] [(.int (1 : Int32))]))
      exact Go.retI C X416 d3_79 ⟨by simp +decide [bordE, b2f hc59_414, b2t hc75_417]; try rfl, rfl⟩ (by decide) (by decide)
  · show Go p e below s n0 _ _ _ (T413.setTop (mkF m 62 #[.val (.ref a1), .val (.int (3 : Int32))] []))
    refine Go.st (fun _ => XS.iconst X413.here C.hx rfl (hb C.hby d3_62)) ?_
    show Go p e below s n0 _ _ _ (T413.setTop (mkF m 63 #[.val (.ref a1), .val (.int (3 : Int32))] [(.int (2 : Int32))]))
    exact Go.retI C X413 d3_63 ⟨by simp +decide [bordE, b2t hc59_414]; try rfl, rfl⟩ (by decide) (by decide)
set_option maxRecDepth 65536 in
set_option maxHeartbeats 40000000 in
theorem con_border_4 (l : Launch) (Z : State) (a0 : Array Value) (hw : ∀ d ∈ tables_1, d.before a0 Z = true) (n0 : Nat) (h0 : Heap) (Z0 : n0 ≤ h0.size) (a1 : Addr) (sl : List Int64) (hs : sl.length = 6) (A1 : AR Z h0 a1 .long (sl.map Value.long)) :
    Con l Z (⟨"com/example/orderly_ring/orderlyring/model/SequencesExtendBordersPinLaw", "border", "([JI)I"⟩ : MethodName) method_4_code 2 (some .int) [] ({ frames := 1, cells := 0, slots := 0, locals := 16 } : Room) n0 #[(.ref a1), (.int (4 : Int32))] h0 (fun v h => v = some (.int (bordE (Esl sl) 4).toInt32) ∧ h = h0) := by
  refine Con.mk pf_3 hw Z0 ?_
  intro p e s m below meth c T0 C X0
  have ef : entryFrame m #[(.ref a1), (.int (4 : Int32))] 2 = mkF m 0 #[.val (.ref a1), .val (.int (4 : Int32))] [] := by first | (simp [entryFrame, mkF, argsToLocals, Value.category]; done) | rfl
  rw [ef]
  show Go p e below s n0 _ _ _ (T0.setTop (mkF m 0 #[.val (.ref a1), .val (.int (4 : Int32))] []))
  refine Go.st (fun _ => XS.iloadN X0.here C.hx rfl (hb C.hby d3_0) rfl) ?_
  show Go p e below s n0 _ _ _ (T0.setTop (mkF m 1 #[.val (.ref a1), .val (.int (4 : Int32))] [(.int (4 : Int32))]))
  refine Go.st (fun _ => XS.iconst X0.here C.hx rfl (hb C.hby d3_1)) ?_
  show Go p e below s n0 _ _ _ (T0.setTop (mkF m 2 #[.val (.ref a1), .val (.int (4 : Int32))] [(.int (5 : Int32)), (.int (4 : Int32))]))
  refine Go.icmp_le C X0 (pc' := 16) d3_2 (by decide) (by decide) (fun _ => ?_) (fun hc => absurd hc (by decide))
  show Go p e below s n0 _ _ _ (T0.setTop (mkF m 16 #[.val (.ref a1), .val (.int (4 : Int32))] []))
  refine Go.st (fun _ => XS.iloadN X0.here C.hx rfl (hb C.hby d3_16) rfl) ?_
  show Go p e below s n0 _ _ _ (T0.setTop (mkF m 17 #[.val (.ref a1), .val (.int (4 : Int32))] [(.int (4 : Int32))]))
  refine Go.st (fun _ => XS.iconst X0.here C.hx rfl (hb C.hby d3_17)) ?_
  show Go p e below s n0 _ _ _ (T0.setTop (mkF m 18 #[.val (.ref a1), .val (.int (4 : Int32))] [(.int (4 : Int32)), (.int (4 : Int32))]))
  refine Go.icmp_le C X0 (pc' := 32) d3_18 (by decide) (by decide) (fun _ => ?_) (fun hc => absurd hc (by decide))
  show Go p e below s n0 _ _ _ (T0.setTop (mkF m 32 #[.val (.ref a1), .val (.int (4 : Int32))] []))
  refine Go.st (fun _ => XS.iloadN X0.here C.hx rfl (hb C.hby d3_32) rfl) ?_
  show Go p e below s n0 _ _ _ (T0.setTop (mkF m 33 #[.val (.ref a1), .val (.int (4 : Int32))] [(.int (4 : Int32))]))
  refine Go.st (fun _ => XS.iconst X0.here C.hx rfl (hb C.hby d3_33)) ?_
  show Go p e below s n0 _ _ _ (T0.setTop (mkF m 34 #[.val (.ref a1), .val (.int (4 : Int32))] [(.int (3 : Int32)), (.int (4 : Int32))]))
  refine Go.icmp_le C X0 (pc' := 48) d3_34 (by decide) (by decide) (fun hc => absurd hc (by decide)) (fun _ => ?_)
  show Go p e below s n0 _ _ _ (T0.setTop (mkF m 37 #[.val (.ref a1), .val (.int (4 : Int32))] []))
  refine Go.st (fun _ => XS.aloadN X0.here C.hx rfl (hb C.hby d3_37) rfl rfl) ?_
  show Go p e below s n0 _ _ _ (T0.setTop (mkF m 38 #[.val (.ref a1), .val (.int (4 : Int32))] [(.ref a1)]))
  refine Go.st (fun _ => XS.iloadN X0.here C.hx rfl (hb C.hby d3_38) rfl) ?_
  show Go p e below s n0 _ _ _ (T0.setTop (mkF m 39 #[.val (.ref a1), .val (.int (4 : Int32))] [(.int (4 : Int32)), (.ref a1)]))
  refine Go.st (fun _ => XS.iconst X0.here C.hx rfl (hb C.hby d3_39)) ?_
  show Go p e below s n0 _ _ _ (T0.setTop (mkF m 40 #[.val (.ref a1), .val (.int (4 : Int32))] [(.int (3 : Int32)), (.int (4 : Int32)), (.ref a1)]))
  refine Go.callS C X0 (W := 0) (argsL := [(.ref a1), (.int (4 : Int32)), (.int (3 : Int32))]) (rest := []) (wd 13 rfl) (wd 14 rfl) (wd 3 rfl) (wd 15 rfl) (by decide) (con_same_4_3 l Z a0 hw n0 h0 X0.size a1 sl hs A1) (by decide) (by decide) rfl (lenOf pd_4 rfl) (Nat.le_of_ble_eq_true rfl) rfl d3_40 (by decide) (by decide) (fun T421 h421 v421 X421 hQ421 => ?_)
  obtain ⟨rfl, hh421⟩ := hQ421
  rw [hh421] at X421
  show Go p e below s n0 _ _ _ (T421.setTop (mkF m 43 #[.val (.ref a1), .val (.int (4 : Int32))] [(.int (b2i (sameE (Esl sl) 4 3)))]))
  refine Go.if_eq C X421 (pc' := 48) d3_43 (by decide) (by decide) (fun hc43_422 => ?_) (fun hc43_422 => ?_)
  · show Go p e below s n0 _ _ _ (T421.setTop (mkF m 48 #[.val (.ref a1), .val (.int (4 : Int32))] []))
    refine Go.st (fun _ => XS.iloadN X421.here C.hx rfl (hb C.hby d3_48) rfl) ?_
    show Go p e below s n0 _ _ _ (T421.setTop (mkF m 49 #[.val (.ref a1), .val (.int (4 : Int32))] [(.int (4 : Int32))]))
    refine Go.st (fun _ => XS.iconst X421.here C.hx rfl (hb C.hby d3_49)) ?_
    show Go p e below s n0 _ _ _ (T421.setTop (mkF m 50 #[.val (.ref a1), .val (.int (4 : Int32))] [(.int (2 : Int32)), (.int (4 : Int32))]))
    refine Go.icmp_le C X421 (pc' := 64) d3_50 (by decide) (by decide) (fun hc => absurd hc (by decide)) (fun _ => ?_)
    show Go p e below s n0 _ _ _ (T421.setTop (mkF m 53 #[.val (.ref a1), .val (.int (4 : Int32))] []))
    refine Go.st (fun _ => XS.aloadN X421.here C.hx rfl (hb C.hby d3_53) rfl rfl) ?_
    show Go p e below s n0 _ _ _ (T421.setTop (mkF m 54 #[.val (.ref a1), .val (.int (4 : Int32))] [(.ref a1)]))
    refine Go.st (fun _ => XS.iloadN X421.here C.hx rfl (hb C.hby d3_54) rfl) ?_
    show Go p e below s n0 _ _ _ (T421.setTop (mkF m 55 #[.val (.ref a1), .val (.int (4 : Int32))] [(.int (4 : Int32)), (.ref a1)]))
    refine Go.st (fun _ => XS.iconst X421.here C.hx rfl (hb C.hby d3_55)) ?_
    show Go p e below s n0 _ _ _ (T421.setTop (mkF m 56 #[.val (.ref a1), .val (.int (4 : Int32))] [(.int (2 : Int32)), (.int (4 : Int32)), (.ref a1)]))
    refine Go.callS C X421 (W := 0) (argsL := [(.ref a1), (.int (4 : Int32)), (.int (2 : Int32))]) (rest := []) (wd 13 rfl) (wd 14 rfl) (wd 3 rfl) (wd 15 rfl) (by decide) (con_same_4_2 l Z a0 hw n0 h0 X421.size a1 sl hs A1) (by decide) (by decide) rfl (lenOf pd_4 rfl) (Nat.le_of_ble_eq_true rfl) rfl d3_56 (by decide) (by decide) (fun T424 h424 v424 X424 hQ424 => ?_)
    obtain ⟨rfl, hh424⟩ := hQ424
    rw [hh424] at X424
    show Go p e below s n0 _ _ _ (T424.setTop (mkF m 59 #[.val (.ref a1), .val (.int (4 : Int32))] [(.int (b2i (sameE (Esl sl) 4 2)))]))
    refine Go.if_eq C X424 (pc' := 64) d3_59 (by decide) (by decide) (fun hc59_425 => ?_) (fun hc59_425 => ?_)
    · show Go p e below s n0 _ _ _ (T424.setTop (mkF m 64 #[.val (.ref a1), .val (.int (4 : Int32))] []))
      refine Go.st (fun _ => XS.iloadN X424.here C.hx rfl (hb C.hby d3_64) rfl) ?_
      show Go p e below s n0 _ _ _ (T424.setTop (mkF m 65 #[.val (.ref a1), .val (.int (4 : Int32))] [(.int (4 : Int32))]))
      refine Go.st (fun _ => XS.iconst X424.here C.hx rfl (hb C.hby d3_65)) ?_
      show Go p e below s n0 _ _ _ (T424.setTop (mkF m 66 #[.val (.ref a1), .val (.int (4 : Int32))] [(.int (1 : Int32)), (.int (4 : Int32))]))
      refine Go.icmp_le C X424 (pc' := 80) d3_66 (by decide) (by decide) (fun hc => absurd hc (by decide)) (fun _ => ?_)
      show Go p e below s n0 _ _ _ (T424.setTop (mkF m 69 #[.val (.ref a1), .val (.int (4 : Int32))] []))
      refine Go.st (fun _ => XS.aloadN X424.here C.hx rfl (hb C.hby d3_69) rfl rfl) ?_
      show Go p e below s n0 _ _ _ (T424.setTop (mkF m 70 #[.val (.ref a1), .val (.int (4 : Int32))] [(.ref a1)]))
      refine Go.st (fun _ => XS.iloadN X424.here C.hx rfl (hb C.hby d3_70) rfl) ?_
      show Go p e below s n0 _ _ _ (T424.setTop (mkF m 71 #[.val (.ref a1), .val (.int (4 : Int32))] [(.int (4 : Int32)), (.ref a1)]))
      refine Go.st (fun _ => XS.iconst X424.here C.hx rfl (hb C.hby d3_71)) ?_
      show Go p e below s n0 _ _ _ (T424.setTop (mkF m 72 #[.val (.ref a1), .val (.int (4 : Int32))] [(.int (1 : Int32)), (.int (4 : Int32)), (.ref a1)]))
      refine Go.callS C X424 (W := 0) (argsL := [(.ref a1), (.int (4 : Int32)), (.int (1 : Int32))]) (rest := []) (wd 13 rfl) (wd 14 rfl) (wd 3 rfl) (wd 15 rfl) (by decide) (con_same_4_1 l Z a0 hw n0 h0 X424.size a1 sl hs A1) (by decide) (by decide) rfl (lenOf pd_4 rfl) (Nat.le_of_ble_eq_true rfl) rfl d3_72 (by decide) (by decide) (fun T427 h427 v427 X427 hQ427 => ?_)
      obtain ⟨rfl, hh427⟩ := hQ427
      rw [hh427] at X427
      show Go p e below s n0 _ _ _ (T427.setTop (mkF m 75 #[.val (.ref a1), .val (.int (4 : Int32))] [(.int (b2i (sameE (Esl sl) 4 1)))]))
      refine Go.if_eq C X427 (pc' := 80) d3_75 (by decide) (by decide) (fun hc75_428 => ?_) (fun hc75_428 => ?_)
      · show Go p e below s n0 _ _ _ (T427.setTop (mkF m 80 #[.val (.ref a1), .val (.int (4 : Int32))] []))
        refine Go.st (fun _ => XS.iconst X427.here C.hx rfl (hb C.hby d3_80)) ?_
        show Go p e below s n0 _ _ _ (T427.setTop (mkF m 81 #[.val (.ref a1), .val (.int (4 : Int32))] [(.int (0 : Int32))]))
        exact Go.retI C X427 d3_81 ⟨by simp +decide [bordE, b2f hc43_422, b2f hc59_425, b2f hc75_428]; try rfl, rfl⟩ (by decide) (by decide)
      · show Go p e below s n0 _ _ _ (T427.setTop (mkF m 78 #[.val (.ref a1), .val (.int (4 : Int32))] []))
        refine Go.st (fun _ => XS.iconst X427.here C.hx rfl (hb C.hby d3_78)) ?_
        show Go p e below s n0 _ _ _ (T427.setTop (mkF m 79 #[.val (.ref a1), .val (.int (4 : Int32))] [(.int (1 : Int32))]))
        exact Go.retI C X427 d3_79 ⟨by simp +decide [bordE, b2f hc43_422, b2f hc59_425, b2t hc75_428]; try rfl, rfl⟩ (by decide) (by decide)
    · show Go p e below s n0 _ _ _ (T424.setTop (mkF m 62 #[.val (.ref a1), .val (.int (4 : Int32))] []))
      refine Go.st (fun _ => XS.iconst X424.here C.hx rfl (hb C.hby d3_62)) ?_
      show Go p e below s n0 _ _ _ (T424.setTop (mkF m 63 #[.val (.ref a1), .val (.int (4 : Int32))] [(.int (2 : Int32))]))
      exact Go.retI C X424 d3_63 ⟨by simp +decide [bordE, b2f hc43_422, b2t hc59_425]; try rfl, rfl⟩ (by decide) (by decide)
  · show Go p e below s n0 _ _ _ (T421.setTop (mkF m 46 #[.val (.ref a1), .val (.int (4 : Int32))] []))
    refine Go.st (fun _ => XS.iconst X421.here C.hx rfl (hb C.hby d3_46)) ?_
    show Go p e below s n0 _ _ _ (T421.setTop (mkF m 47 #[.val (.ref a1), .val (.int (4 : Int32))] [(.int (3 : Int32))]))
    exact Go.retI C X421 d3_47 ⟨by simp +decide [bordE, b2t hc43_422]; try rfl, rfl⟩ (by decide) (by decide)
set_option maxRecDepth 65536 in
set_option maxHeartbeats 40000000 in
theorem con_border_5 (l : Launch) (Z : State) (a0 : Array Value) (hw : ∀ d ∈ tables_1, d.before a0 Z = true) (n0 : Nat) (h0 : Heap) (Z0 : n0 ≤ h0.size) (a1 : Addr) (sl : List Int64) (hs : sl.length = 6) (A1 : AR Z h0 a1 .long (sl.map Value.long)) :
    Con l Z (⟨"com/example/orderly_ring/orderlyring/model/SequencesExtendBordersPinLaw", "border", "([JI)I"⟩ : MethodName) method_4_code 2 (some .int) [] ({ frames := 1, cells := 0, slots := 0, locals := 16 } : Room) n0 #[(.ref a1), (.int (5 : Int32))] h0 (fun v h => v = some (.int (bordE (Esl sl) 5).toInt32) ∧ h = h0) := by
  refine Con.mk pf_3 hw Z0 ?_
  intro p e s m below meth c T0 C X0
  have ef : entryFrame m #[(.ref a1), (.int (5 : Int32))] 2 = mkF m 0 #[.val (.ref a1), .val (.int (5 : Int32))] [] := by first | (simp [entryFrame, mkF, argsToLocals, Value.category]; done) | rfl
  rw [ef]
  show Go p e below s n0 _ _ _ (T0.setTop (mkF m 0 #[.val (.ref a1), .val (.int (5 : Int32))] []))
  refine Go.st (fun _ => XS.iloadN X0.here C.hx rfl (hb C.hby d3_0) rfl) ?_
  show Go p e below s n0 _ _ _ (T0.setTop (mkF m 1 #[.val (.ref a1), .val (.int (5 : Int32))] [(.int (5 : Int32))]))
  refine Go.st (fun _ => XS.iconst X0.here C.hx rfl (hb C.hby d3_1)) ?_
  show Go p e below s n0 _ _ _ (T0.setTop (mkF m 2 #[.val (.ref a1), .val (.int (5 : Int32))] [(.int (5 : Int32)), (.int (5 : Int32))]))
  refine Go.icmp_le C X0 (pc' := 16) d3_2 (by decide) (by decide) (fun _ => ?_) (fun hc => absurd hc (by decide))
  show Go p e below s n0 _ _ _ (T0.setTop (mkF m 16 #[.val (.ref a1), .val (.int (5 : Int32))] []))
  refine Go.st (fun _ => XS.iloadN X0.here C.hx rfl (hb C.hby d3_16) rfl) ?_
  show Go p e below s n0 _ _ _ (T0.setTop (mkF m 17 #[.val (.ref a1), .val (.int (5 : Int32))] [(.int (5 : Int32))]))
  refine Go.st (fun _ => XS.iconst X0.here C.hx rfl (hb C.hby d3_17)) ?_
  show Go p e below s n0 _ _ _ (T0.setTop (mkF m 18 #[.val (.ref a1), .val (.int (5 : Int32))] [(.int (4 : Int32)), (.int (5 : Int32))]))
  refine Go.icmp_le C X0 (pc' := 32) d3_18 (by decide) (by decide) (fun hc => absurd hc (by decide)) (fun _ => ?_)
  show Go p e below s n0 _ _ _ (T0.setTop (mkF m 21 #[.val (.ref a1), .val (.int (5 : Int32))] []))
  refine Go.st (fun _ => XS.aloadN X0.here C.hx rfl (hb C.hby d3_21) rfl rfl) ?_
  show Go p e below s n0 _ _ _ (T0.setTop (mkF m 22 #[.val (.ref a1), .val (.int (5 : Int32))] [(.ref a1)]))
  refine Go.st (fun _ => XS.iloadN X0.here C.hx rfl (hb C.hby d3_22) rfl) ?_
  show Go p e below s n0 _ _ _ (T0.setTop (mkF m 23 #[.val (.ref a1), .val (.int (5 : Int32))] [(.int (5 : Int32)), (.ref a1)]))
  refine Go.st (fun _ => XS.iconst X0.here C.hx rfl (hb C.hby d3_23)) ?_
  show Go p e below s n0 _ _ _ (T0.setTop (mkF m 24 #[.val (.ref a1), .val (.int (5 : Int32))] [(.int (4 : Int32)), (.int (5 : Int32)), (.ref a1)]))
  refine Go.callS C X0 (W := 0) (argsL := [(.ref a1), (.int (5 : Int32)), (.int (4 : Int32))]) (rest := []) (wd 13 rfl) (wd 14 rfl) (wd 3 rfl) (wd 15 rfl) (by decide) (con_same_5_4 l Z a0 hw n0 h0 X0.size a1 sl hs A1) (by decide) (by decide) rfl (lenOf pd_4 rfl) (Nat.le_of_ble_eq_true rfl) rfl d3_24 (by decide) (by decide) (fun T431 h431 v431 X431 hQ431 => ?_)
  obtain ⟨rfl, hh431⟩ := hQ431
  rw [hh431] at X431
  show Go p e below s n0 _ _ _ (T431.setTop (mkF m 27 #[.val (.ref a1), .val (.int (5 : Int32))] [(.int (b2i (sameE (Esl sl) 5 4)))]))
  refine Go.if_eq C X431 (pc' := 32) d3_27 (by decide) (by decide) (fun hc27_432 => ?_) (fun hc27_432 => ?_)
  · show Go p e below s n0 _ _ _ (T431.setTop (mkF m 32 #[.val (.ref a1), .val (.int (5 : Int32))] []))
    refine Go.st (fun _ => XS.iloadN X431.here C.hx rfl (hb C.hby d3_32) rfl) ?_
    show Go p e below s n0 _ _ _ (T431.setTop (mkF m 33 #[.val (.ref a1), .val (.int (5 : Int32))] [(.int (5 : Int32))]))
    refine Go.st (fun _ => XS.iconst X431.here C.hx rfl (hb C.hby d3_33)) ?_
    show Go p e below s n0 _ _ _ (T431.setTop (mkF m 34 #[.val (.ref a1), .val (.int (5 : Int32))] [(.int (3 : Int32)), (.int (5 : Int32))]))
    refine Go.icmp_le C X431 (pc' := 48) d3_34 (by decide) (by decide) (fun hc => absurd hc (by decide)) (fun _ => ?_)
    show Go p e below s n0 _ _ _ (T431.setTop (mkF m 37 #[.val (.ref a1), .val (.int (5 : Int32))] []))
    refine Go.st (fun _ => XS.aloadN X431.here C.hx rfl (hb C.hby d3_37) rfl rfl) ?_
    show Go p e below s n0 _ _ _ (T431.setTop (mkF m 38 #[.val (.ref a1), .val (.int (5 : Int32))] [(.ref a1)]))
    refine Go.st (fun _ => XS.iloadN X431.here C.hx rfl (hb C.hby d3_38) rfl) ?_
    show Go p e below s n0 _ _ _ (T431.setTop (mkF m 39 #[.val (.ref a1), .val (.int (5 : Int32))] [(.int (5 : Int32)), (.ref a1)]))
    refine Go.st (fun _ => XS.iconst X431.here C.hx rfl (hb C.hby d3_39)) ?_
    show Go p e below s n0 _ _ _ (T431.setTop (mkF m 40 #[.val (.ref a1), .val (.int (5 : Int32))] [(.int (3 : Int32)), (.int (5 : Int32)), (.ref a1)]))
    refine Go.callS C X431 (W := 0) (argsL := [(.ref a1), (.int (5 : Int32)), (.int (3 : Int32))]) (rest := []) (wd 13 rfl) (wd 14 rfl) (wd 3 rfl) (wd 15 rfl) (by decide) (con_same_5_3 l Z a0 hw n0 h0 X431.size a1 sl hs A1) (by decide) (by decide) rfl (lenOf pd_4 rfl) (Nat.le_of_ble_eq_true rfl) rfl d3_40 (by decide) (by decide) (fun T434 h434 v434 X434 hQ434 => ?_)
    obtain ⟨rfl, hh434⟩ := hQ434
    rw [hh434] at X434
    show Go p e below s n0 _ _ _ (T434.setTop (mkF m 43 #[.val (.ref a1), .val (.int (5 : Int32))] [(.int (b2i (sameE (Esl sl) 5 3)))]))
    refine Go.if_eq C X434 (pc' := 48) d3_43 (by decide) (by decide) (fun hc43_435 => ?_) (fun hc43_435 => ?_)
    · show Go p e below s n0 _ _ _ (T434.setTop (mkF m 48 #[.val (.ref a1), .val (.int (5 : Int32))] []))
      refine Go.st (fun _ => XS.iloadN X434.here C.hx rfl (hb C.hby d3_48) rfl) ?_
      show Go p e below s n0 _ _ _ (T434.setTop (mkF m 49 #[.val (.ref a1), .val (.int (5 : Int32))] [(.int (5 : Int32))]))
      refine Go.st (fun _ => XS.iconst X434.here C.hx rfl (hb C.hby d3_49)) ?_
      show Go p e below s n0 _ _ _ (T434.setTop (mkF m 50 #[.val (.ref a1), .val (.int (5 : Int32))] [(.int (2 : Int32)), (.int (5 : Int32))]))
      refine Go.icmp_le C X434 (pc' := 64) d3_50 (by decide) (by decide) (fun hc => absurd hc (by decide)) (fun _ => ?_)
      show Go p e below s n0 _ _ _ (T434.setTop (mkF m 53 #[.val (.ref a1), .val (.int (5 : Int32))] []))
      refine Go.st (fun _ => XS.aloadN X434.here C.hx rfl (hb C.hby d3_53) rfl rfl) ?_
      show Go p e below s n0 _ _ _ (T434.setTop (mkF m 54 #[.val (.ref a1), .val (.int (5 : Int32))] [(.ref a1)]))
      refine Go.st (fun _ => XS.iloadN X434.here C.hx rfl (hb C.hby d3_54) rfl) ?_
      show Go p e below s n0 _ _ _ (T434.setTop (mkF m 55 #[.val (.ref a1), .val (.int (5 : Int32))] [(.int (5 : Int32)), (.ref a1)]))
      refine Go.st (fun _ => XS.iconst X434.here C.hx rfl (hb C.hby d3_55)) ?_
      show Go p e below s n0 _ _ _ (T434.setTop (mkF m 56 #[.val (.ref a1), .val (.int (5 : Int32))] [(.int (2 : Int32)), (.int (5 : Int32)), (.ref a1)]))
      refine Go.callS C X434 (W := 0) (argsL := [(.ref a1), (.int (5 : Int32)), (.int (2 : Int32))]) (rest := []) (wd 13 rfl) (wd 14 rfl) (wd 3 rfl) (wd 15 rfl) (by decide) (con_same_5_2 l Z a0 hw n0 h0 X434.size a1 sl hs A1) (by decide) (by decide) rfl (lenOf pd_4 rfl) (Nat.le_of_ble_eq_true rfl) rfl d3_56 (by decide) (by decide) (fun T437 h437 v437 X437 hQ437 => ?_)
      obtain ⟨rfl, hh437⟩ := hQ437
      rw [hh437] at X437
      show Go p e below s n0 _ _ _ (T437.setTop (mkF m 59 #[.val (.ref a1), .val (.int (5 : Int32))] [(.int (b2i (sameE (Esl sl) 5 2)))]))
      refine Go.if_eq C X437 (pc' := 64) d3_59 (by decide) (by decide) (fun hc59_438 => ?_) (fun hc59_438 => ?_)
      · show Go p e below s n0 _ _ _ (T437.setTop (mkF m 64 #[.val (.ref a1), .val (.int (5 : Int32))] []))
        refine Go.st (fun _ => XS.iloadN X437.here C.hx rfl (hb C.hby d3_64) rfl) ?_
        show Go p e below s n0 _ _ _ (T437.setTop (mkF m 65 #[.val (.ref a1), .val (.int (5 : Int32))] [(.int (5 : Int32))]))
        refine Go.st (fun _ => XS.iconst X437.here C.hx rfl (hb C.hby d3_65)) ?_
        show Go p e below s n0 _ _ _ (T437.setTop (mkF m 66 #[.val (.ref a1), .val (.int (5 : Int32))] [(.int (1 : Int32)), (.int (5 : Int32))]))
        refine Go.icmp_le C X437 (pc' := 80) d3_66 (by decide) (by decide) (fun hc => absurd hc (by decide)) (fun _ => ?_)
        show Go p e below s n0 _ _ _ (T437.setTop (mkF m 69 #[.val (.ref a1), .val (.int (5 : Int32))] []))
        refine Go.st (fun _ => XS.aloadN X437.here C.hx rfl (hb C.hby d3_69) rfl rfl) ?_
        show Go p e below s n0 _ _ _ (T437.setTop (mkF m 70 #[.val (.ref a1), .val (.int (5 : Int32))] [(.ref a1)]))
        refine Go.st (fun _ => XS.iloadN X437.here C.hx rfl (hb C.hby d3_70) rfl) ?_
        show Go p e below s n0 _ _ _ (T437.setTop (mkF m 71 #[.val (.ref a1), .val (.int (5 : Int32))] [(.int (5 : Int32)), (.ref a1)]))
        refine Go.st (fun _ => XS.iconst X437.here C.hx rfl (hb C.hby d3_71)) ?_
        show Go p e below s n0 _ _ _ (T437.setTop (mkF m 72 #[.val (.ref a1), .val (.int (5 : Int32))] [(.int (1 : Int32)), (.int (5 : Int32)), (.ref a1)]))
        refine Go.callS C X437 (W := 0) (argsL := [(.ref a1), (.int (5 : Int32)), (.int (1 : Int32))]) (rest := []) (wd 13 rfl) (wd 14 rfl) (wd 3 rfl) (wd 15 rfl) (by decide) (con_same_5_1 l Z a0 hw n0 h0 X437.size a1 sl hs A1) (by decide) (by decide) rfl (lenOf pd_4 rfl) (Nat.le_of_ble_eq_true rfl) rfl d3_72 (by decide) (by decide) (fun T440 h440 v440 X440 hQ440 => ?_)
        obtain ⟨rfl, hh440⟩ := hQ440
        rw [hh440] at X440
        show Go p e below s n0 _ _ _ (T440.setTop (mkF m 75 #[.val (.ref a1), .val (.int (5 : Int32))] [(.int (b2i (sameE (Esl sl) 5 1)))]))
        refine Go.if_eq C X440 (pc' := 80) d3_75 (by decide) (by decide) (fun hc75_441 => ?_) (fun hc75_441 => ?_)
        · show Go p e below s n0 _ _ _ (T440.setTop (mkF m 80 #[.val (.ref a1), .val (.int (5 : Int32))] []))
          refine Go.st (fun _ => XS.iconst X440.here C.hx rfl (hb C.hby d3_80)) ?_
          show Go p e below s n0 _ _ _ (T440.setTop (mkF m 81 #[.val (.ref a1), .val (.int (5 : Int32))] [(.int (0 : Int32))]))
          exact Go.retI C X440 d3_81 ⟨by simp +decide [bordE, b2f hc27_432, b2f hc43_435, b2f hc59_438, b2f hc75_441]; try rfl, rfl⟩ (by decide) (by decide)
        · show Go p e below s n0 _ _ _ (T440.setTop (mkF m 78 #[.val (.ref a1), .val (.int (5 : Int32))] []))
          refine Go.st (fun _ => XS.iconst X440.here C.hx rfl (hb C.hby d3_78)) ?_
          show Go p e below s n0 _ _ _ (T440.setTop (mkF m 79 #[.val (.ref a1), .val (.int (5 : Int32))] [(.int (1 : Int32))]))
          exact Go.retI C X440 d3_79 ⟨by simp +decide [bordE, b2f hc27_432, b2f hc43_435, b2f hc59_438, b2t hc75_441]; try rfl, rfl⟩ (by decide) (by decide)
      · show Go p e below s n0 _ _ _ (T437.setTop (mkF m 62 #[.val (.ref a1), .val (.int (5 : Int32))] []))
        refine Go.st (fun _ => XS.iconst X437.here C.hx rfl (hb C.hby d3_62)) ?_
        show Go p e below s n0 _ _ _ (T437.setTop (mkF m 63 #[.val (.ref a1), .val (.int (5 : Int32))] [(.int (2 : Int32))]))
        exact Go.retI C X437 d3_63 ⟨by simp +decide [bordE, b2f hc27_432, b2f hc43_435, b2t hc59_438]; try rfl, rfl⟩ (by decide) (by decide)
    · show Go p e below s n0 _ _ _ (T434.setTop (mkF m 46 #[.val (.ref a1), .val (.int (5 : Int32))] []))
      refine Go.st (fun _ => XS.iconst X434.here C.hx rfl (hb C.hby d3_46)) ?_
      show Go p e below s n0 _ _ _ (T434.setTop (mkF m 47 #[.val (.ref a1), .val (.int (5 : Int32))] [(.int (3 : Int32))]))
      exact Go.retI C X434 d3_47 ⟨by simp +decide [bordE, b2f hc27_432, b2t hc43_435]; try rfl, rfl⟩ (by decide) (by decide)
  · show Go p e below s n0 _ _ _ (T431.setTop (mkF m 30 #[.val (.ref a1), .val (.int (5 : Int32))] []))
    refine Go.st (fun _ => XS.iconst X431.here C.hx rfl (hb C.hby d3_30)) ?_
    show Go p e below s n0 _ _ _ (T431.setTop (mkF m 31 #[.val (.ref a1), .val (.int (5 : Int32))] [(.int (4 : Int32))]))
    exact Go.retI C X431 d3_31 ⟨by simp +decide [bordE, b2t hc27_432]; try rfl, rfl⟩ (by decide) (by decide)
set_option maxRecDepth 65536 in
set_option maxHeartbeats 40000000 in
theorem con_border_6 (l : Launch) (Z : State) (a0 : Array Value) (hw : ∀ d ∈ tables_1, d.before a0 Z = true) (n0 : Nat) (h0 : Heap) (Z0 : n0 ≤ h0.size) (a1 : Addr) (sl : List Int64) (hs : sl.length = 6) (A1 : AR Z h0 a1 .long (sl.map Value.long)) :
    Con l Z (⟨"com/example/orderly_ring/orderlyring/model/SequencesExtendBordersPinLaw", "border", "([JI)I"⟩ : MethodName) method_4_code 2 (some .int) [] ({ frames := 1, cells := 0, slots := 0, locals := 16 } : Room) n0 #[(.ref a1), (.int (6 : Int32))] h0 (fun v h => v = some (.int (bordE (Esl sl) 6).toInt32) ∧ h = h0) := by
  refine Con.mk pf_3 hw Z0 ?_
  intro p e s m below meth c T0 C X0
  have ef : entryFrame m #[(.ref a1), (.int (6 : Int32))] 2 = mkF m 0 #[.val (.ref a1), .val (.int (6 : Int32))] [] := by first | (simp [entryFrame, mkF, argsToLocals, Value.category]; done) | rfl
  rw [ef]
  show Go p e below s n0 _ _ _ (T0.setTop (mkF m 0 #[.val (.ref a1), .val (.int (6 : Int32))] []))
  refine Go.st (fun _ => XS.iloadN X0.here C.hx rfl (hb C.hby d3_0) rfl) ?_
  show Go p e below s n0 _ _ _ (T0.setTop (mkF m 1 #[.val (.ref a1), .val (.int (6 : Int32))] [(.int (6 : Int32))]))
  refine Go.st (fun _ => XS.iconst X0.here C.hx rfl (hb C.hby d3_1)) ?_
  show Go p e below s n0 _ _ _ (T0.setTop (mkF m 2 #[.val (.ref a1), .val (.int (6 : Int32))] [(.int (5 : Int32)), (.int (6 : Int32))]))
  refine Go.icmp_le C X0 (pc' := 16) d3_2 (by decide) (by decide) (fun hc => absurd hc (by decide)) (fun _ => ?_)
  show Go p e below s n0 _ _ _ (T0.setTop (mkF m 5 #[.val (.ref a1), .val (.int (6 : Int32))] []))
  refine Go.st (fun _ => XS.aloadN X0.here C.hx rfl (hb C.hby d3_5) rfl rfl) ?_
  show Go p e below s n0 _ _ _ (T0.setTop (mkF m 6 #[.val (.ref a1), .val (.int (6 : Int32))] [(.ref a1)]))
  refine Go.st (fun _ => XS.iloadN X0.here C.hx rfl (hb C.hby d3_6) rfl) ?_
  show Go p e below s n0 _ _ _ (T0.setTop (mkF m 7 #[.val (.ref a1), .val (.int (6 : Int32))] [(.int (6 : Int32)), (.ref a1)]))
  refine Go.st (fun _ => XS.iconst X0.here C.hx rfl (hb C.hby d3_7)) ?_
  show Go p e below s n0 _ _ _ (T0.setTop (mkF m 8 #[.val (.ref a1), .val (.int (6 : Int32))] [(.int (5 : Int32)), (.int (6 : Int32)), (.ref a1)]))
  refine Go.callS C X0 (W := 0) (argsL := [(.ref a1), (.int (6 : Int32)), (.int (5 : Int32))]) (rest := []) (wd 13 rfl) (wd 14 rfl) (wd 3 rfl) (wd 15 rfl) (by decide) (con_same_6_5 l Z a0 hw n0 h0 X0.size a1 sl hs A1) (by decide) (by decide) rfl (lenOf pd_4 rfl) (Nat.le_of_ble_eq_true rfl) rfl d3_8 (by decide) (by decide) (fun T443 h443 v443 X443 hQ443 => ?_)
  obtain ⟨rfl, hh443⟩ := hQ443
  rw [hh443] at X443
  show Go p e below s n0 _ _ _ (T443.setTop (mkF m 11 #[.val (.ref a1), .val (.int (6 : Int32))] [(.int (b2i (sameE (Esl sl) 6 5)))]))
  refine Go.if_eq C X443 (pc' := 16) d3_11 (by decide) (by decide) (fun hc11_444 => ?_) (fun hc11_444 => ?_)
  · show Go p e below s n0 _ _ _ (T443.setTop (mkF m 16 #[.val (.ref a1), .val (.int (6 : Int32))] []))
    refine Go.st (fun _ => XS.iloadN X443.here C.hx rfl (hb C.hby d3_16) rfl) ?_
    show Go p e below s n0 _ _ _ (T443.setTop (mkF m 17 #[.val (.ref a1), .val (.int (6 : Int32))] [(.int (6 : Int32))]))
    refine Go.st (fun _ => XS.iconst X443.here C.hx rfl (hb C.hby d3_17)) ?_
    show Go p e below s n0 _ _ _ (T443.setTop (mkF m 18 #[.val (.ref a1), .val (.int (6 : Int32))] [(.int (4 : Int32)), (.int (6 : Int32))]))
    refine Go.icmp_le C X443 (pc' := 32) d3_18 (by decide) (by decide) (fun hc => absurd hc (by decide)) (fun _ => ?_)
    show Go p e below s n0 _ _ _ (T443.setTop (mkF m 21 #[.val (.ref a1), .val (.int (6 : Int32))] []))
    refine Go.st (fun _ => XS.aloadN X443.here C.hx rfl (hb C.hby d3_21) rfl rfl) ?_
    show Go p e below s n0 _ _ _ (T443.setTop (mkF m 22 #[.val (.ref a1), .val (.int (6 : Int32))] [(.ref a1)]))
    refine Go.st (fun _ => XS.iloadN X443.here C.hx rfl (hb C.hby d3_22) rfl) ?_
    show Go p e below s n0 _ _ _ (T443.setTop (mkF m 23 #[.val (.ref a1), .val (.int (6 : Int32))] [(.int (6 : Int32)), (.ref a1)]))
    refine Go.st (fun _ => XS.iconst X443.here C.hx rfl (hb C.hby d3_23)) ?_
    show Go p e below s n0 _ _ _ (T443.setTop (mkF m 24 #[.val (.ref a1), .val (.int (6 : Int32))] [(.int (4 : Int32)), (.int (6 : Int32)), (.ref a1)]))
    refine Go.callS C X443 (W := 0) (argsL := [(.ref a1), (.int (6 : Int32)), (.int (4 : Int32))]) (rest := []) (wd 13 rfl) (wd 14 rfl) (wd 3 rfl) (wd 15 rfl) (by decide) (con_same_6_4 l Z a0 hw n0 h0 X443.size a1 sl hs A1) (by decide) (by decide) rfl (lenOf pd_4 rfl) (Nat.le_of_ble_eq_true rfl) rfl d3_24 (by decide) (by decide) (fun T446 h446 v446 X446 hQ446 => ?_)
    obtain ⟨rfl, hh446⟩ := hQ446
    rw [hh446] at X446
    show Go p e below s n0 _ _ _ (T446.setTop (mkF m 27 #[.val (.ref a1), .val (.int (6 : Int32))] [(.int (b2i (sameE (Esl sl) 6 4)))]))
    refine Go.if_eq C X446 (pc' := 32) d3_27 (by decide) (by decide) (fun hc27_447 => ?_) (fun hc27_447 => ?_)
    · show Go p e below s n0 _ _ _ (T446.setTop (mkF m 32 #[.val (.ref a1), .val (.int (6 : Int32))] []))
      refine Go.st (fun _ => XS.iloadN X446.here C.hx rfl (hb C.hby d3_32) rfl) ?_
      show Go p e below s n0 _ _ _ (T446.setTop (mkF m 33 #[.val (.ref a1), .val (.int (6 : Int32))] [(.int (6 : Int32))]))
      refine Go.st (fun _ => XS.iconst X446.here C.hx rfl (hb C.hby d3_33)) ?_
      show Go p e below s n0 _ _ _ (T446.setTop (mkF m 34 #[.val (.ref a1), .val (.int (6 : Int32))] [(.int (3 : Int32)), (.int (6 : Int32))]))
      refine Go.icmp_le C X446 (pc' := 48) d3_34 (by decide) (by decide) (fun hc => absurd hc (by decide)) (fun _ => ?_)
      show Go p e below s n0 _ _ _ (T446.setTop (mkF m 37 #[.val (.ref a1), .val (.int (6 : Int32))] []))
      refine Go.st (fun _ => XS.aloadN X446.here C.hx rfl (hb C.hby d3_37) rfl rfl) ?_
      show Go p e below s n0 _ _ _ (T446.setTop (mkF m 38 #[.val (.ref a1), .val (.int (6 : Int32))] [(.ref a1)]))
      refine Go.st (fun _ => XS.iloadN X446.here C.hx rfl (hb C.hby d3_38) rfl) ?_
      show Go p e below s n0 _ _ _ (T446.setTop (mkF m 39 #[.val (.ref a1), .val (.int (6 : Int32))] [(.int (6 : Int32)), (.ref a1)]))
      refine Go.st (fun _ => XS.iconst X446.here C.hx rfl (hb C.hby d3_39)) ?_
      show Go p e below s n0 _ _ _ (T446.setTop (mkF m 40 #[.val (.ref a1), .val (.int (6 : Int32))] [(.int (3 : Int32)), (.int (6 : Int32)), (.ref a1)]))
      refine Go.callS C X446 (W := 0) (argsL := [(.ref a1), (.int (6 : Int32)), (.int (3 : Int32))]) (rest := []) (wd 13 rfl) (wd 14 rfl) (wd 3 rfl) (wd 15 rfl) (by decide) (con_same_6_3 l Z a0 hw n0 h0 X446.size a1 sl hs A1) (by decide) (by decide) rfl (lenOf pd_4 rfl) (Nat.le_of_ble_eq_true rfl) rfl d3_40 (by decide) (by decide) (fun T449 h449 v449 X449 hQ449 => ?_)
      obtain ⟨rfl, hh449⟩ := hQ449
      rw [hh449] at X449
      show Go p e below s n0 _ _ _ (T449.setTop (mkF m 43 #[.val (.ref a1), .val (.int (6 : Int32))] [(.int (b2i (sameE (Esl sl) 6 3)))]))
      refine Go.if_eq C X449 (pc' := 48) d3_43 (by decide) (by decide) (fun hc43_450 => ?_) (fun hc43_450 => ?_)
      · show Go p e below s n0 _ _ _ (T449.setTop (mkF m 48 #[.val (.ref a1), .val (.int (6 : Int32))] []))
        refine Go.st (fun _ => XS.iloadN X449.here C.hx rfl (hb C.hby d3_48) rfl) ?_
        show Go p e below s n0 _ _ _ (T449.setTop (mkF m 49 #[.val (.ref a1), .val (.int (6 : Int32))] [(.int (6 : Int32))]))
        refine Go.st (fun _ => XS.iconst X449.here C.hx rfl (hb C.hby d3_49)) ?_
        show Go p e below s n0 _ _ _ (T449.setTop (mkF m 50 #[.val (.ref a1), .val (.int (6 : Int32))] [(.int (2 : Int32)), (.int (6 : Int32))]))
        refine Go.icmp_le C X449 (pc' := 64) d3_50 (by decide) (by decide) (fun hc => absurd hc (by decide)) (fun _ => ?_)
        show Go p e below s n0 _ _ _ (T449.setTop (mkF m 53 #[.val (.ref a1), .val (.int (6 : Int32))] []))
        refine Go.st (fun _ => XS.aloadN X449.here C.hx rfl (hb C.hby d3_53) rfl rfl) ?_
        show Go p e below s n0 _ _ _ (T449.setTop (mkF m 54 #[.val (.ref a1), .val (.int (6 : Int32))] [(.ref a1)]))
        refine Go.st (fun _ => XS.iloadN X449.here C.hx rfl (hb C.hby d3_54) rfl) ?_
        show Go p e below s n0 _ _ _ (T449.setTop (mkF m 55 #[.val (.ref a1), .val (.int (6 : Int32))] [(.int (6 : Int32)), (.ref a1)]))
        refine Go.st (fun _ => XS.iconst X449.here C.hx rfl (hb C.hby d3_55)) ?_
        show Go p e below s n0 _ _ _ (T449.setTop (mkF m 56 #[.val (.ref a1), .val (.int (6 : Int32))] [(.int (2 : Int32)), (.int (6 : Int32)), (.ref a1)]))
        refine Go.callS C X449 (W := 0) (argsL := [(.ref a1), (.int (6 : Int32)), (.int (2 : Int32))]) (rest := []) (wd 13 rfl) (wd 14 rfl) (wd 3 rfl) (wd 15 rfl) (by decide) (con_same_6_2 l Z a0 hw n0 h0 X449.size a1 sl hs A1) (by decide) (by decide) rfl (lenOf pd_4 rfl) (Nat.le_of_ble_eq_true rfl) rfl d3_56 (by decide) (by decide) (fun T452 h452 v452 X452 hQ452 => ?_)
        obtain ⟨rfl, hh452⟩ := hQ452
        rw [hh452] at X452
        show Go p e below s n0 _ _ _ (T452.setTop (mkF m 59 #[.val (.ref a1), .val (.int (6 : Int32))] [(.int (b2i (sameE (Esl sl) 6 2)))]))
        refine Go.if_eq C X452 (pc' := 64) d3_59 (by decide) (by decide) (fun hc59_453 => ?_) (fun hc59_453 => ?_)
        · show Go p e below s n0 _ _ _ (T452.setTop (mkF m 64 #[.val (.ref a1), .val (.int (6 : Int32))] []))
          refine Go.st (fun _ => XS.iloadN X452.here C.hx rfl (hb C.hby d3_64) rfl) ?_
          show Go p e below s n0 _ _ _ (T452.setTop (mkF m 65 #[.val (.ref a1), .val (.int (6 : Int32))] [(.int (6 : Int32))]))
          refine Go.st (fun _ => XS.iconst X452.here C.hx rfl (hb C.hby d3_65)) ?_
          show Go p e below s n0 _ _ _ (T452.setTop (mkF m 66 #[.val (.ref a1), .val (.int (6 : Int32))] [(.int (1 : Int32)), (.int (6 : Int32))]))
          refine Go.icmp_le C X452 (pc' := 80) d3_66 (by decide) (by decide) (fun hc => absurd hc (by decide)) (fun _ => ?_)
          show Go p e below s n0 _ _ _ (T452.setTop (mkF m 69 #[.val (.ref a1), .val (.int (6 : Int32))] []))
          refine Go.st (fun _ => XS.aloadN X452.here C.hx rfl (hb C.hby d3_69) rfl rfl) ?_
          show Go p e below s n0 _ _ _ (T452.setTop (mkF m 70 #[.val (.ref a1), .val (.int (6 : Int32))] [(.ref a1)]))
          refine Go.st (fun _ => XS.iloadN X452.here C.hx rfl (hb C.hby d3_70) rfl) ?_
          show Go p e below s n0 _ _ _ (T452.setTop (mkF m 71 #[.val (.ref a1), .val (.int (6 : Int32))] [(.int (6 : Int32)), (.ref a1)]))
          refine Go.st (fun _ => XS.iconst X452.here C.hx rfl (hb C.hby d3_71)) ?_
          show Go p e below s n0 _ _ _ (T452.setTop (mkF m 72 #[.val (.ref a1), .val (.int (6 : Int32))] [(.int (1 : Int32)), (.int (6 : Int32)), (.ref a1)]))
          refine Go.callS C X452 (W := 0) (argsL := [(.ref a1), (.int (6 : Int32)), (.int (1 : Int32))]) (rest := []) (wd 13 rfl) (wd 14 rfl) (wd 3 rfl) (wd 15 rfl) (by decide) (con_same_6_1 l Z a0 hw n0 h0 X452.size a1 sl hs A1) (by decide) (by decide) rfl (lenOf pd_4 rfl) (Nat.le_of_ble_eq_true rfl) rfl d3_72 (by decide) (by decide) (fun T455 h455 v455 X455 hQ455 => ?_)
          obtain ⟨rfl, hh455⟩ := hQ455
          rw [hh455] at X455
          show Go p e below s n0 _ _ _ (T455.setTop (mkF m 75 #[.val (.ref a1), .val (.int (6 : Int32))] [(.int (b2i (sameE (Esl sl) 6 1)))]))
          refine Go.if_eq C X455 (pc' := 80) d3_75 (by decide) (by decide) (fun hc75_456 => ?_) (fun hc75_456 => ?_)
          · show Go p e below s n0 _ _ _ (T455.setTop (mkF m 80 #[.val (.ref a1), .val (.int (6 : Int32))] []))
            refine Go.st (fun _ => XS.iconst X455.here C.hx rfl (hb C.hby d3_80)) ?_
            show Go p e below s n0 _ _ _ (T455.setTop (mkF m 81 #[.val (.ref a1), .val (.int (6 : Int32))] [(.int (0 : Int32))]))
            exact Go.retI C X455 d3_81 ⟨by simp +decide [bordE, b2f hc11_444, b2f hc27_447, b2f hc43_450, b2f hc59_453, b2f hc75_456]; try rfl, rfl⟩ (by decide) (by decide)
          · show Go p e below s n0 _ _ _ (T455.setTop (mkF m 78 #[.val (.ref a1), .val (.int (6 : Int32))] []))
            refine Go.st (fun _ => XS.iconst X455.here C.hx rfl (hb C.hby d3_78)) ?_
            show Go p e below s n0 _ _ _ (T455.setTop (mkF m 79 #[.val (.ref a1), .val (.int (6 : Int32))] [(.int (1 : Int32))]))
            exact Go.retI C X455 d3_79 ⟨by simp +decide [bordE, b2f hc11_444, b2f hc27_447, b2f hc43_450, b2f hc59_453, b2t hc75_456]; try rfl, rfl⟩ (by decide) (by decide)
        · show Go p e below s n0 _ _ _ (T452.setTop (mkF m 62 #[.val (.ref a1), .val (.int (6 : Int32))] []))
          refine Go.st (fun _ => XS.iconst X452.here C.hx rfl (hb C.hby d3_62)) ?_
          show Go p e below s n0 _ _ _ (T452.setTop (mkF m 63 #[.val (.ref a1), .val (.int (6 : Int32))] [(.int (2 : Int32))]))
          exact Go.retI C X452 d3_63 ⟨by simp +decide [bordE, b2f hc11_444, b2f hc27_447, b2f hc43_450, b2t hc59_453]; try rfl, rfl⟩ (by decide) (by decide)
      · show Go p e below s n0 _ _ _ (T449.setTop (mkF m 46 #[.val (.ref a1), .val (.int (6 : Int32))] []))
        refine Go.st (fun _ => XS.iconst X449.here C.hx rfl (hb C.hby d3_46)) ?_
        show Go p e below s n0 _ _ _ (T449.setTop (mkF m 47 #[.val (.ref a1), .val (.int (6 : Int32))] [(.int (3 : Int32))]))
        exact Go.retI C X449 d3_47 ⟨by simp +decide [bordE, b2f hc11_444, b2f hc27_447, b2t hc43_450]; try rfl, rfl⟩ (by decide) (by decide)
    · show Go p e below s n0 _ _ _ (T446.setTop (mkF m 30 #[.val (.ref a1), .val (.int (6 : Int32))] []))
      refine Go.st (fun _ => XS.iconst X446.here C.hx rfl (hb C.hby d3_30)) ?_
      show Go p e below s n0 _ _ _ (T446.setTop (mkF m 31 #[.val (.ref a1), .val (.int (6 : Int32))] [(.int (4 : Int32))]))
      exact Go.retI C X446 d3_31 ⟨by simp +decide [bordE, b2f hc11_444, b2t hc27_447]; try rfl, rfl⟩ (by decide) (by decide)
  · show Go p e below s n0 _ _ _ (T443.setTop (mkF m 14 #[.val (.ref a1), .val (.int (6 : Int32))] []))
    refine Go.st (fun _ => XS.iconst X443.here C.hx rfl (hb C.hby d3_14)) ?_
    show Go p e below s n0 _ _ _ (T443.setTop (mkF m 15 #[.val (.ref a1), .val (.int (6 : Int32))] [(.int (5 : Int32))]))
    exact Go.retI C X443 d3_15 ⟨by simp +decide [bordE, b2t hc11_444]; try rfl, rfl⟩ (by decide) (by decide)
theorem pf_0 : plainFor x = true := plainFor_of_name (by first | (simp [plainName, overriddenIn]; done) | decide +kernel)
theorem pd_0 : parseMethodDescriptor "(JJJI)Z" = some ⟨[.long, .long, .long, .int], some .boolean⟩ := by decide +kernel
set_option maxRecDepth 65536 in
set_option maxHeartbeats 40000000 in
theorem con_law (l : Launch) (Z : State) (a0 : Array Value) (hw : ∀ d ∈ tables_1, d.before a0 Z = true) (n0 : Nat) (h0 : Heap) (Z0 : n0 ≤ h0.size) (xa ya za : Int64) (pk : Int32)  :
    Con l Z x code maxLocals ret tables_1 room_1 n0 #[(.long xa), (.long ya), (.long za), (.int pk)] h0 (fun v h => v = some (.int 1)) := by
  refine Con.mk pf_0 hw Z0 ?_
  intro p e s m below meth c T0 C X0
  have ef : entryFrame m #[(.long xa), (.long ya), (.long za), (.int pk)] maxLocals = mkF m 0 #[.val (.long xa), .second, .val (.long ya), .second, .val (.long za), .second, .val (.int pk), .unset, .unset] [] := by first | (simp [entryFrame, mkF, argsToLocals, Value.category, maxLocals]; done) | rfl
  rw [ef]
  show Go p e below s n0 _ _ _ (T0.setTop (mkF m 0 #[.val (.long xa), .second, .val (.long ya), .second, .val (.long za), .second, .val (.int pk), .unset, .unset] []))
  refine Go.st (fun _ => XS.bipush X0.here C.hx rfl (hb C.hby at_0)) ?_
  show Go p e below s n0 _ _ _ (T0.setTop (mkF m 2 #[.val (.long xa), .second, .val (.long ya), .second, .val (.long za), .second, .val (.int pk), .unset, .unset] [(.int (6 : Int32))]))
  refine Go.newP C X0 (aty := .long) (cap := 6) (wd 0 rfl) at_2 (by decide) (by decide) (by decide) (by decide) (by decide) (fun T457 h457 b457 g457 ge457 X457 E457 A457 => ?_)
  have A_b457 : AR Z h457 b457 .long [(.long (0 : Int64)), (.long (0 : Int64)), (.long (0 : Int64)), (.long (0 : Int64)), (.long (0 : Int64)), (.long (0 : Int64))] := A457
  show Go p e below s n0 _ _ _ (T457.setTop (mkF m 4 #[.val (.long xa), .second, .val (.long ya), .second, .val (.long za), .second, .val (.int pk), .unset, .unset] [(.ref b457)]))
  refine Go.st (fun _ => XS.astore X457.here C.hx rfl (hb C.hby at_4) rfl rfl (l' := #[.val (.long xa), .second, .val (.long ya), .second, .val (.long za), .second, .val (.int pk), .val (.ref b457), .unset]) rfl) ?_
  show Go p e below s n0 _ _ _ (T457.setTop (mkF m 6 #[.val (.long xa), .second, .val (.long ya), .second, .val (.long za), .second, .val (.int pk), .val (.ref b457), .unset] []))
  refine Go.st (fun _ => XS.aload X457.here C.hx rfl (hb C.hby at_6) rfl rfl) ?_
  show Go p e below s n0 _ _ _ (T457.setTop (mkF m 8 #[.val (.long xa), .second, .val (.long ya), .second, .val (.long za), .second, .val (.int pk), .val (.ref b457), .unset] [(.ref b457)]))
  refine Go.st (fun _ => XS.iconst X457.here C.hx rfl (hb C.hby at_8)) ?_
  show Go p e below s n0 _ _ _ (T457.setTop (mkF m 9 #[.val (.long xa), .second, .val (.long ya), .second, .val (.long za), .second, .val (.int pk), .val (.ref b457), .unset] [(.int (0 : Int32)), (.ref b457)]))
  refine Go.st (fun _ => XS.iload X457.here C.hx rfl (hb C.hby at_9) rfl) ?_
  show Go p e below s n0 _ _ _ (T457.setTop (mkF m 11 #[.val (.long xa), .second, .val (.long ya), .second, .val (.long za), .second, .val (.int pk), .val (.ref b457), .unset] [(.int pk), (.int (0 : Int32)), (.ref b457)]))
  refine Go.st (fun _ => XS.iconst X457.here C.hx rfl (hb C.hby at_11)) ?_
  show Go p e below s n0 _ _ _ (T457.setTop (mkF m 12 #[.val (.long xa), .second, .val (.long ya), .second, .val (.long za), .second, .val (.int pk), .val (.ref b457), .unset] [(.int (3 : Int32)), (.int pk), (.int (0 : Int32)), (.ref b457)]))
  refine Go.st (fun _ => XS.iand X457.here C.hx rfl (hb C.hby at_12) rfl) ?_
  show Go p e below s n0 _ _ _ (T457.setTop (mkF m 13 #[.val (.long xa), .second, .val (.long ya), .second, .val (.long za), .second, .val (.int pk), .val (.ref b457), .unset] [(.int (pk &&& (3 : Int32))), (.int (0 : Int32)), (.ref b457)]))
  refine Go.st (fun _ => XS.lloadN X457.here C.hx rfl (hb C.hby at_13) rfl) ?_
  show Go p e below s n0 _ _ _ (T457.setTop (mkF m 14 #[.val (.long xa), .second, .val (.long ya), .second, .val (.long za), .second, .val (.int pk), .val (.ref b457), .unset] [(.long xa), (.int (pk &&& (3 : Int32))), (.int (0 : Int32)), (.ref b457)]))
  refine Go.st (fun _ => XS.lloadN X457.here C.hx rfl (hb C.hby at_14) rfl) ?_
  show Go p e below s n0 _ _ _ (T457.setTop (mkF m 15 #[.val (.long xa), .second, .val (.long ya), .second, .val (.long za), .second, .val (.int pk), .val (.ref b457), .unset] [(.long ya), (.long xa), (.int (pk &&& (3 : Int32))), (.int (0 : Int32)), (.ref b457)]))
  refine Go.st (fun _ => XS.lload X457.here C.hx rfl (hb C.hby at_15) rfl) ?_
  show Go p e below s n0 _ _ _ (T457.setTop (mkF m 17 #[.val (.long xa), .second, .val (.long ya), .second, .val (.long za), .second, .val (.int pk), .val (.ref b457), .unset] [(.long za), (.long ya), (.long xa), (.int (pk &&& (3 : Int32))), (.int (0 : Int32)), (.ref b457)]))
  refine Go.callS C X457 (W := 2) (argsL := [(.int (pk &&& (3 : Int32))), (.long xa), (.long ya), (.long za)]) (rest := [(.int (0 : Int32)), (.ref b457)]) (wd 1 rfl) (wd 2 rfl) (wd 3 rfl) (wd 4 rfl) (by decide) (con_label l Z a0 hw n0 h457 X457.size (pk &&& (3 : Int32)) xa ya za) (by decide) (by decide) rfl (lenOf pd_1 rfl) (Nat.le_of_ble_eq_true rfl) rfl at_17 (by decide) (by decide) (fun T458 h458 v458 X458 hQ458 => ?_)
  obtain ⟨rfl, hh458⟩ := hQ458
  rw [hh458] at X458
  show Go p e below s n0 _ _ _ (T458.setTop (mkF m 20 #[.val (.long xa), .second, .val (.long ya), .second, .val (.long za), .second, .val (.int pk), .val (.ref b457), .unset] [(.long (labF (pk &&& (3 : Int32)) xa ya za)), (.int (0 : Int32)), (.ref b457)]))
  refine Go.lastore C X458 A_b457 (by decide) (Nat.le_of_ble_eq_true rfl) ge457 at_20 (fun T459 h459 X459 W459 A459 => ?_)
  have A_459 : AR Z h459 b457 .long [(.long (labF (pk &&& (3 : Int32)) xa ya za)), (.long (0 : Int64)), (.long (0 : Int64)), (.long (0 : Int64)), (.long (0 : Int64)), (.long (0 : Int64))] := A459
  show Go p e below s n0 _ _ _ (T459.setTop (mkF m 21 #[.val (.long xa), .second, .val (.long ya), .second, .val (.long za), .second, .val (.int pk), .val (.ref b457), .unset] []))
  refine Go.st (fun _ => XS.aload X459.here C.hx rfl (hb C.hby at_21) rfl rfl) ?_
  show Go p e below s n0 _ _ _ (T459.setTop (mkF m 23 #[.val (.long xa), .second, .val (.long ya), .second, .val (.long za), .second, .val (.int pk), .val (.ref b457), .unset] [(.ref b457)]))
  refine Go.st (fun _ => XS.iconst X459.here C.hx rfl (hb C.hby at_23)) ?_
  show Go p e below s n0 _ _ _ (T459.setTop (mkF m 24 #[.val (.long xa), .second, .val (.long ya), .second, .val (.long za), .second, .val (.int pk), .val (.ref b457), .unset] [(.int (1 : Int32)), (.ref b457)]))
  refine Go.st (fun _ => XS.iload X459.here C.hx rfl (hb C.hby at_24) rfl) ?_
  show Go p e below s n0 _ _ _ (T459.setTop (mkF m 26 #[.val (.long xa), .second, .val (.long ya), .second, .val (.long za), .second, .val (.int pk), .val (.ref b457), .unset] [(.int pk), (.int (1 : Int32)), (.ref b457)]))
  refine Go.st (fun _ => XS.iconst X459.here C.hx rfl (hb C.hby at_26)) ?_
  show Go p e below s n0 _ _ _ (T459.setTop (mkF m 27 #[.val (.long xa), .second, .val (.long ya), .second, .val (.long za), .second, .val (.int pk), .val (.ref b457), .unset] [(.int (2 : Int32)), (.int pk), (.int (1 : Int32)), (.ref b457)]))
  refine Go.st (fun _ => XS.iushr X459.here C.hx rfl (hb C.hby at_27) rfl) ?_
  show Go p e below s n0 _ _ _ (T459.setTop (mkF m 28 #[.val (.long xa), .second, .val (.long ya), .second, .val (.long za), .second, .val (.int pk), .val (.ref b457), .unset] [(.int (ius pk (2 : Int32))), (.int (1 : Int32)), (.ref b457)]))
  refine Go.st (fun _ => XS.iconst X459.here C.hx rfl (hb C.hby at_28)) ?_
  show Go p e below s n0 _ _ _ (T459.setTop (mkF m 29 #[.val (.long xa), .second, .val (.long ya), .second, .val (.long za), .second, .val (.int pk), .val (.ref b457), .unset] [(.int (3 : Int32)), (.int (ius pk (2 : Int32))), (.int (1 : Int32)), (.ref b457)]))
  refine Go.st (fun _ => XS.iand X459.here C.hx rfl (hb C.hby at_29) rfl) ?_
  show Go p e below s n0 _ _ _ (T459.setTop (mkF m 30 #[.val (.long xa), .second, .val (.long ya), .second, .val (.long za), .second, .val (.int pk), .val (.ref b457), .unset] [(.int ((ius pk (2 : Int32)) &&& (3 : Int32))), (.int (1 : Int32)), (.ref b457)]))
  refine Go.st (fun _ => XS.lloadN X459.here C.hx rfl (hb C.hby at_30) rfl) ?_
  show Go p e below s n0 _ _ _ (T459.setTop (mkF m 31 #[.val (.long xa), .second, .val (.long ya), .second, .val (.long za), .second, .val (.int pk), .val (.ref b457), .unset] [(.long xa), (.int ((ius pk (2 : Int32)) &&& (3 : Int32))), (.int (1 : Int32)), (.ref b457)]))
  refine Go.st (fun _ => XS.lloadN X459.here C.hx rfl (hb C.hby at_31) rfl) ?_
  show Go p e below s n0 _ _ _ (T459.setTop (mkF m 32 #[.val (.long xa), .second, .val (.long ya), .second, .val (.long za), .second, .val (.int pk), .val (.ref b457), .unset] [(.long ya), (.long xa), (.int ((ius pk (2 : Int32)) &&& (3 : Int32))), (.int (1 : Int32)), (.ref b457)]))
  refine Go.st (fun _ => XS.lload X459.here C.hx rfl (hb C.hby at_32) rfl) ?_
  show Go p e below s n0 _ _ _ (T459.setTop (mkF m 34 #[.val (.long xa), .second, .val (.long ya), .second, .val (.long za), .second, .val (.int pk), .val (.ref b457), .unset] [(.long za), (.long ya), (.long xa), (.int ((ius pk (2 : Int32)) &&& (3 : Int32))), (.int (1 : Int32)), (.ref b457)]))
  refine Go.callS C X459 (W := 2) (argsL := [(.int ((ius pk (2 : Int32)) &&& (3 : Int32))), (.long xa), (.long ya), (.long za)]) (rest := [(.int (1 : Int32)), (.ref b457)]) (wd 1 rfl) (wd 2 rfl) (wd 3 rfl) (wd 4 rfl) (by decide) (con_label l Z a0 hw n0 h459 X459.size ((ius pk (2 : Int32)) &&& (3 : Int32)) xa ya za) (by decide) (by decide) rfl (lenOf pd_1 rfl) (Nat.le_of_ble_eq_true rfl) rfl at_34 (by decide) (by decide) (fun T460 h460 v460 X460 hQ460 => ?_)
  obtain ⟨rfl, hh460⟩ := hQ460
  rw [hh460] at X460
  show Go p e below s n0 _ _ _ (T460.setTop (mkF m 37 #[.val (.long xa), .second, .val (.long ya), .second, .val (.long za), .second, .val (.int pk), .val (.ref b457), .unset] [(.long (labF ((ius pk (2 : Int32)) &&& (3 : Int32)) xa ya za)), (.int (1 : Int32)), (.ref b457)]))
  refine Go.lastore C X460 A_459 (by decide) (Nat.le_of_ble_eq_true rfl) ge457 at_37 (fun T461 h461 X461 W461 A461 => ?_)
  have A_461 : AR Z h461 b457 .long [(.long (labF (pk &&& (3 : Int32)) xa ya za)), (.long (labF ((ius pk (2 : Int32)) &&& (3 : Int32)) xa ya za)), (.long (0 : Int64)), (.long (0 : Int64)), (.long (0 : Int64)), (.long (0 : Int64))] := A461
  show Go p e below s n0 _ _ _ (T461.setTop (mkF m 38 #[.val (.long xa), .second, .val (.long ya), .second, .val (.long za), .second, .val (.int pk), .val (.ref b457), .unset] []))
  refine Go.st (fun _ => XS.aload X461.here C.hx rfl (hb C.hby at_38) rfl rfl) ?_
  show Go p e below s n0 _ _ _ (T461.setTop (mkF m 40 #[.val (.long xa), .second, .val (.long ya), .second, .val (.long za), .second, .val (.int pk), .val (.ref b457), .unset] [(.ref b457)]))
  refine Go.st (fun _ => XS.iconst X461.here C.hx rfl (hb C.hby at_40)) ?_
  show Go p e below s n0 _ _ _ (T461.setTop (mkF m 41 #[.val (.long xa), .second, .val (.long ya), .second, .val (.long za), .second, .val (.int pk), .val (.ref b457), .unset] [(.int (2 : Int32)), (.ref b457)]))
  refine Go.st (fun _ => XS.iload X461.here C.hx rfl (hb C.hby at_41) rfl) ?_
  show Go p e below s n0 _ _ _ (T461.setTop (mkF m 43 #[.val (.long xa), .second, .val (.long ya), .second, .val (.long za), .second, .val (.int pk), .val (.ref b457), .unset] [(.int pk), (.int (2 : Int32)), (.ref b457)]))
  refine Go.st (fun _ => XS.iconst X461.here C.hx rfl (hb C.hby at_43)) ?_
  show Go p e below s n0 _ _ _ (T461.setTop (mkF m 44 #[.val (.long xa), .second, .val (.long ya), .second, .val (.long za), .second, .val (.int pk), .val (.ref b457), .unset] [(.int (4 : Int32)), (.int pk), (.int (2 : Int32)), (.ref b457)]))
  refine Go.st (fun _ => XS.iushr X461.here C.hx rfl (hb C.hby at_44) rfl) ?_
  show Go p e below s n0 _ _ _ (T461.setTop (mkF m 45 #[.val (.long xa), .second, .val (.long ya), .second, .val (.long za), .second, .val (.int pk), .val (.ref b457), .unset] [(.int (ius pk (4 : Int32))), (.int (2 : Int32)), (.ref b457)]))
  refine Go.st (fun _ => XS.iconst X461.here C.hx rfl (hb C.hby at_45)) ?_
  show Go p e below s n0 _ _ _ (T461.setTop (mkF m 46 #[.val (.long xa), .second, .val (.long ya), .second, .val (.long za), .second, .val (.int pk), .val (.ref b457), .unset] [(.int (3 : Int32)), (.int (ius pk (4 : Int32))), (.int (2 : Int32)), (.ref b457)]))
  refine Go.st (fun _ => XS.iand X461.here C.hx rfl (hb C.hby at_46) rfl) ?_
  show Go p e below s n0 _ _ _ (T461.setTop (mkF m 47 #[.val (.long xa), .second, .val (.long ya), .second, .val (.long za), .second, .val (.int pk), .val (.ref b457), .unset] [(.int ((ius pk (4 : Int32)) &&& (3 : Int32))), (.int (2 : Int32)), (.ref b457)]))
  refine Go.st (fun _ => XS.lloadN X461.here C.hx rfl (hb C.hby at_47) rfl) ?_
  show Go p e below s n0 _ _ _ (T461.setTop (mkF m 48 #[.val (.long xa), .second, .val (.long ya), .second, .val (.long za), .second, .val (.int pk), .val (.ref b457), .unset] [(.long xa), (.int ((ius pk (4 : Int32)) &&& (3 : Int32))), (.int (2 : Int32)), (.ref b457)]))
  refine Go.st (fun _ => XS.lloadN X461.here C.hx rfl (hb C.hby at_48) rfl) ?_
  show Go p e below s n0 _ _ _ (T461.setTop (mkF m 49 #[.val (.long xa), .second, .val (.long ya), .second, .val (.long za), .second, .val (.int pk), .val (.ref b457), .unset] [(.long ya), (.long xa), (.int ((ius pk (4 : Int32)) &&& (3 : Int32))), (.int (2 : Int32)), (.ref b457)]))
  refine Go.st (fun _ => XS.lload X461.here C.hx rfl (hb C.hby at_49) rfl) ?_
  show Go p e below s n0 _ _ _ (T461.setTop (mkF m 51 #[.val (.long xa), .second, .val (.long ya), .second, .val (.long za), .second, .val (.int pk), .val (.ref b457), .unset] [(.long za), (.long ya), (.long xa), (.int ((ius pk (4 : Int32)) &&& (3 : Int32))), (.int (2 : Int32)), (.ref b457)]))
  refine Go.callS C X461 (W := 2) (argsL := [(.int ((ius pk (4 : Int32)) &&& (3 : Int32))), (.long xa), (.long ya), (.long za)]) (rest := [(.int (2 : Int32)), (.ref b457)]) (wd 1 rfl) (wd 2 rfl) (wd 3 rfl) (wd 4 rfl) (by decide) (con_label l Z a0 hw n0 h461 X461.size ((ius pk (4 : Int32)) &&& (3 : Int32)) xa ya za) (by decide) (by decide) rfl (lenOf pd_1 rfl) (Nat.le_of_ble_eq_true rfl) rfl at_51 (by decide) (by decide) (fun T462 h462 v462 X462 hQ462 => ?_)
  obtain ⟨rfl, hh462⟩ := hQ462
  rw [hh462] at X462
  show Go p e below s n0 _ _ _ (T462.setTop (mkF m 54 #[.val (.long xa), .second, .val (.long ya), .second, .val (.long za), .second, .val (.int pk), .val (.ref b457), .unset] [(.long (labF ((ius pk (4 : Int32)) &&& (3 : Int32)) xa ya za)), (.int (2 : Int32)), (.ref b457)]))
  refine Go.lastore C X462 A_461 (by decide) (Nat.le_of_ble_eq_true rfl) ge457 at_54 (fun T463 h463 X463 W463 A463 => ?_)
  have A_463 : AR Z h463 b457 .long [(.long (labF (pk &&& (3 : Int32)) xa ya za)), (.long (labF ((ius pk (2 : Int32)) &&& (3 : Int32)) xa ya za)), (.long (labF ((ius pk (4 : Int32)) &&& (3 : Int32)) xa ya za)), (.long (0 : Int64)), (.long (0 : Int64)), (.long (0 : Int64))] := A463
  show Go p e below s n0 _ _ _ (T463.setTop (mkF m 55 #[.val (.long xa), .second, .val (.long ya), .second, .val (.long za), .second, .val (.int pk), .val (.ref b457), .unset] []))
  refine Go.st (fun _ => XS.aload X463.here C.hx rfl (hb C.hby at_55) rfl rfl) ?_
  show Go p e below s n0 _ _ _ (T463.setTop (mkF m 57 #[.val (.long xa), .second, .val (.long ya), .second, .val (.long za), .second, .val (.int pk), .val (.ref b457), .unset] [(.ref b457)]))
  refine Go.st (fun _ => XS.iconst X463.here C.hx rfl (hb C.hby at_57)) ?_
  show Go p e below s n0 _ _ _ (T463.setTop (mkF m 58 #[.val (.long xa), .second, .val (.long ya), .second, .val (.long za), .second, .val (.int pk), .val (.ref b457), .unset] [(.int (3 : Int32)), (.ref b457)]))
  refine Go.st (fun _ => XS.iload X463.here C.hx rfl (hb C.hby at_58) rfl) ?_
  show Go p e below s n0 _ _ _ (T463.setTop (mkF m 60 #[.val (.long xa), .second, .val (.long ya), .second, .val (.long za), .second, .val (.int pk), .val (.ref b457), .unset] [(.int pk), (.int (3 : Int32)), (.ref b457)]))
  refine Go.st (fun _ => XS.bipush X463.here C.hx rfl (hb C.hby at_60)) ?_
  show Go p e below s n0 _ _ _ (T463.setTop (mkF m 62 #[.val (.long xa), .second, .val (.long ya), .second, .val (.long za), .second, .val (.int pk), .val (.ref b457), .unset] [(.int (6 : Int32)), (.int pk), (.int (3 : Int32)), (.ref b457)]))
  refine Go.st (fun _ => XS.iushr X463.here C.hx rfl (hb C.hby at_62) rfl) ?_
  show Go p e below s n0 _ _ _ (T463.setTop (mkF m 63 #[.val (.long xa), .second, .val (.long ya), .second, .val (.long za), .second, .val (.int pk), .val (.ref b457), .unset] [(.int (ius pk (6 : Int32))), (.int (3 : Int32)), (.ref b457)]))
  refine Go.st (fun _ => XS.iconst X463.here C.hx rfl (hb C.hby at_63)) ?_
  show Go p e below s n0 _ _ _ (T463.setTop (mkF m 64 #[.val (.long xa), .second, .val (.long ya), .second, .val (.long za), .second, .val (.int pk), .val (.ref b457), .unset] [(.int (3 : Int32)), (.int (ius pk (6 : Int32))), (.int (3 : Int32)), (.ref b457)]))
  refine Go.st (fun _ => XS.iand X463.here C.hx rfl (hb C.hby at_64) rfl) ?_
  show Go p e below s n0 _ _ _ (T463.setTop (mkF m 65 #[.val (.long xa), .second, .val (.long ya), .second, .val (.long za), .second, .val (.int pk), .val (.ref b457), .unset] [(.int ((ius pk (6 : Int32)) &&& (3 : Int32))), (.int (3 : Int32)), (.ref b457)]))
  refine Go.st (fun _ => XS.lloadN X463.here C.hx rfl (hb C.hby at_65) rfl) ?_
  show Go p e below s n0 _ _ _ (T463.setTop (mkF m 66 #[.val (.long xa), .second, .val (.long ya), .second, .val (.long za), .second, .val (.int pk), .val (.ref b457), .unset] [(.long xa), (.int ((ius pk (6 : Int32)) &&& (3 : Int32))), (.int (3 : Int32)), (.ref b457)]))
  refine Go.st (fun _ => XS.lloadN X463.here C.hx rfl (hb C.hby at_66) rfl) ?_
  show Go p e below s n0 _ _ _ (T463.setTop (mkF m 67 #[.val (.long xa), .second, .val (.long ya), .second, .val (.long za), .second, .val (.int pk), .val (.ref b457), .unset] [(.long ya), (.long xa), (.int ((ius pk (6 : Int32)) &&& (3 : Int32))), (.int (3 : Int32)), (.ref b457)]))
  refine Go.st (fun _ => XS.lload X463.here C.hx rfl (hb C.hby at_67) rfl) ?_
  show Go p e below s n0 _ _ _ (T463.setTop (mkF m 69 #[.val (.long xa), .second, .val (.long ya), .second, .val (.long za), .second, .val (.int pk), .val (.ref b457), .unset] [(.long za), (.long ya), (.long xa), (.int ((ius pk (6 : Int32)) &&& (3 : Int32))), (.int (3 : Int32)), (.ref b457)]))
  refine Go.callS C X463 (W := 2) (argsL := [(.int ((ius pk (6 : Int32)) &&& (3 : Int32))), (.long xa), (.long ya), (.long za)]) (rest := [(.int (3 : Int32)), (.ref b457)]) (wd 1 rfl) (wd 2 rfl) (wd 3 rfl) (wd 4 rfl) (by decide) (con_label l Z a0 hw n0 h463 X463.size ((ius pk (6 : Int32)) &&& (3 : Int32)) xa ya za) (by decide) (by decide) rfl (lenOf pd_1 rfl) (Nat.le_of_ble_eq_true rfl) rfl at_69 (by decide) (by decide) (fun T464 h464 v464 X464 hQ464 => ?_)
  obtain ⟨rfl, hh464⟩ := hQ464
  rw [hh464] at X464
  show Go p e below s n0 _ _ _ (T464.setTop (mkF m 72 #[.val (.long xa), .second, .val (.long ya), .second, .val (.long za), .second, .val (.int pk), .val (.ref b457), .unset] [(.long (labF ((ius pk (6 : Int32)) &&& (3 : Int32)) xa ya za)), (.int (3 : Int32)), (.ref b457)]))
  refine Go.lastore C X464 A_463 (by decide) (Nat.le_of_ble_eq_true rfl) ge457 at_72 (fun T465 h465 X465 W465 A465 => ?_)
  have A_465 : AR Z h465 b457 .long [(.long (labF (pk &&& (3 : Int32)) xa ya za)), (.long (labF ((ius pk (2 : Int32)) &&& (3 : Int32)) xa ya za)), (.long (labF ((ius pk (4 : Int32)) &&& (3 : Int32)) xa ya za)), (.long (labF ((ius pk (6 : Int32)) &&& (3 : Int32)) xa ya za)), (.long (0 : Int64)), (.long (0 : Int64))] := A465
  show Go p e below s n0 _ _ _ (T465.setTop (mkF m 73 #[.val (.long xa), .second, .val (.long ya), .second, .val (.long za), .second, .val (.int pk), .val (.ref b457), .unset] []))
  refine Go.st (fun _ => XS.aload X465.here C.hx rfl (hb C.hby at_73) rfl rfl) ?_
  show Go p e below s n0 _ _ _ (T465.setTop (mkF m 75 #[.val (.long xa), .second, .val (.long ya), .second, .val (.long za), .second, .val (.int pk), .val (.ref b457), .unset] [(.ref b457)]))
  refine Go.st (fun _ => XS.iconst X465.here C.hx rfl (hb C.hby at_75)) ?_
  show Go p e below s n0 _ _ _ (T465.setTop (mkF m 76 #[.val (.long xa), .second, .val (.long ya), .second, .val (.long za), .second, .val (.int pk), .val (.ref b457), .unset] [(.int (4 : Int32)), (.ref b457)]))
  refine Go.st (fun _ => XS.iload X465.here C.hx rfl (hb C.hby at_76) rfl) ?_
  show Go p e below s n0 _ _ _ (T465.setTop (mkF m 78 #[.val (.long xa), .second, .val (.long ya), .second, .val (.long za), .second, .val (.int pk), .val (.ref b457), .unset] [(.int pk), (.int (4 : Int32)), (.ref b457)]))
  refine Go.st (fun _ => XS.bipush X465.here C.hx rfl (hb C.hby at_78)) ?_
  show Go p e below s n0 _ _ _ (T465.setTop (mkF m 80 #[.val (.long xa), .second, .val (.long ya), .second, .val (.long za), .second, .val (.int pk), .val (.ref b457), .unset] [(.int (8 : Int32)), (.int pk), (.int (4 : Int32)), (.ref b457)]))
  refine Go.st (fun _ => XS.iushr X465.here C.hx rfl (hb C.hby at_80) rfl) ?_
  show Go p e below s n0 _ _ _ (T465.setTop (mkF m 81 #[.val (.long xa), .second, .val (.long ya), .second, .val (.long za), .second, .val (.int pk), .val (.ref b457), .unset] [(.int (ius pk (8 : Int32))), (.int (4 : Int32)), (.ref b457)]))
  refine Go.st (fun _ => XS.iconst X465.here C.hx rfl (hb C.hby at_81)) ?_
  show Go p e below s n0 _ _ _ (T465.setTop (mkF m 82 #[.val (.long xa), .second, .val (.long ya), .second, .val (.long za), .second, .val (.int pk), .val (.ref b457), .unset] [(.int (3 : Int32)), (.int (ius pk (8 : Int32))), (.int (4 : Int32)), (.ref b457)]))
  refine Go.st (fun _ => XS.iand X465.here C.hx rfl (hb C.hby at_82) rfl) ?_
  show Go p e below s n0 _ _ _ (T465.setTop (mkF m 83 #[.val (.long xa), .second, .val (.long ya), .second, .val (.long za), .second, .val (.int pk), .val (.ref b457), .unset] [(.int ((ius pk (8 : Int32)) &&& (3 : Int32))), (.int (4 : Int32)), (.ref b457)]))
  refine Go.st (fun _ => XS.lloadN X465.here C.hx rfl (hb C.hby at_83) rfl) ?_
  show Go p e below s n0 _ _ _ (T465.setTop (mkF m 84 #[.val (.long xa), .second, .val (.long ya), .second, .val (.long za), .second, .val (.int pk), .val (.ref b457), .unset] [(.long xa), (.int ((ius pk (8 : Int32)) &&& (3 : Int32))), (.int (4 : Int32)), (.ref b457)]))
  refine Go.st (fun _ => XS.lloadN X465.here C.hx rfl (hb C.hby at_84) rfl) ?_
  show Go p e below s n0 _ _ _ (T465.setTop (mkF m 85 #[.val (.long xa), .second, .val (.long ya), .second, .val (.long za), .second, .val (.int pk), .val (.ref b457), .unset] [(.long ya), (.long xa), (.int ((ius pk (8 : Int32)) &&& (3 : Int32))), (.int (4 : Int32)), (.ref b457)]))
  refine Go.st (fun _ => XS.lload X465.here C.hx rfl (hb C.hby at_85) rfl) ?_
  show Go p e below s n0 _ _ _ (T465.setTop (mkF m 87 #[.val (.long xa), .second, .val (.long ya), .second, .val (.long za), .second, .val (.int pk), .val (.ref b457), .unset] [(.long za), (.long ya), (.long xa), (.int ((ius pk (8 : Int32)) &&& (3 : Int32))), (.int (4 : Int32)), (.ref b457)]))
  refine Go.callS C X465 (W := 2) (argsL := [(.int ((ius pk (8 : Int32)) &&& (3 : Int32))), (.long xa), (.long ya), (.long za)]) (rest := [(.int (4 : Int32)), (.ref b457)]) (wd 1 rfl) (wd 2 rfl) (wd 3 rfl) (wd 4 rfl) (by decide) (con_label l Z a0 hw n0 h465 X465.size ((ius pk (8 : Int32)) &&& (3 : Int32)) xa ya za) (by decide) (by decide) rfl (lenOf pd_1 rfl) (Nat.le_of_ble_eq_true rfl) rfl at_87 (by decide) (by decide) (fun T466 h466 v466 X466 hQ466 => ?_)
  obtain ⟨rfl, hh466⟩ := hQ466
  rw [hh466] at X466
  show Go p e below s n0 _ _ _ (T466.setTop (mkF m 90 #[.val (.long xa), .second, .val (.long ya), .second, .val (.long za), .second, .val (.int pk), .val (.ref b457), .unset] [(.long (labF ((ius pk (8 : Int32)) &&& (3 : Int32)) xa ya za)), (.int (4 : Int32)), (.ref b457)]))
  refine Go.lastore C X466 A_465 (by decide) (Nat.le_of_ble_eq_true rfl) ge457 at_90 (fun T467 h467 X467 W467 A467 => ?_)
  have A_467 : AR Z h467 b457 .long [(.long (labF (pk &&& (3 : Int32)) xa ya za)), (.long (labF ((ius pk (2 : Int32)) &&& (3 : Int32)) xa ya za)), (.long (labF ((ius pk (4 : Int32)) &&& (3 : Int32)) xa ya za)), (.long (labF ((ius pk (6 : Int32)) &&& (3 : Int32)) xa ya za)), (.long (labF ((ius pk (8 : Int32)) &&& (3 : Int32)) xa ya za)), (.long (0 : Int64))] := A467
  show Go p e below s n0 _ _ _ (T467.setTop (mkF m 91 #[.val (.long xa), .second, .val (.long ya), .second, .val (.long za), .second, .val (.int pk), .val (.ref b457), .unset] []))
  refine Go.st (fun _ => XS.aload X467.here C.hx rfl (hb C.hby at_91) rfl rfl) ?_
  show Go p e below s n0 _ _ _ (T467.setTop (mkF m 93 #[.val (.long xa), .second, .val (.long ya), .second, .val (.long za), .second, .val (.int pk), .val (.ref b457), .unset] [(.ref b457)]))
  refine Go.st (fun _ => XS.iconst X467.here C.hx rfl (hb C.hby at_93)) ?_
  show Go p e below s n0 _ _ _ (T467.setTop (mkF m 94 #[.val (.long xa), .second, .val (.long ya), .second, .val (.long za), .second, .val (.int pk), .val (.ref b457), .unset] [(.int (5 : Int32)), (.ref b457)]))
  refine Go.st (fun _ => XS.iload X467.here C.hx rfl (hb C.hby at_94) rfl) ?_
  show Go p e below s n0 _ _ _ (T467.setTop (mkF m 96 #[.val (.long xa), .second, .val (.long ya), .second, .val (.long za), .second, .val (.int pk), .val (.ref b457), .unset] [(.int pk), (.int (5 : Int32)), (.ref b457)]))
  refine Go.st (fun _ => XS.bipush X467.here C.hx rfl (hb C.hby at_96)) ?_
  show Go p e below s n0 _ _ _ (T467.setTop (mkF m 98 #[.val (.long xa), .second, .val (.long ya), .second, .val (.long za), .second, .val (.int pk), .val (.ref b457), .unset] [(.int (10 : Int32)), (.int pk), (.int (5 : Int32)), (.ref b457)]))
  refine Go.st (fun _ => XS.iushr X467.here C.hx rfl (hb C.hby at_98) rfl) ?_
  show Go p e below s n0 _ _ _ (T467.setTop (mkF m 99 #[.val (.long xa), .second, .val (.long ya), .second, .val (.long za), .second, .val (.int pk), .val (.ref b457), .unset] [(.int (ius pk (10 : Int32))), (.int (5 : Int32)), (.ref b457)]))
  refine Go.st (fun _ => XS.iconst X467.here C.hx rfl (hb C.hby at_99)) ?_
  show Go p e below s n0 _ _ _ (T467.setTop (mkF m 100 #[.val (.long xa), .second, .val (.long ya), .second, .val (.long za), .second, .val (.int pk), .val (.ref b457), .unset] [(.int (3 : Int32)), (.int (ius pk (10 : Int32))), (.int (5 : Int32)), (.ref b457)]))
  refine Go.st (fun _ => XS.iand X467.here C.hx rfl (hb C.hby at_100) rfl) ?_
  show Go p e below s n0 _ _ _ (T467.setTop (mkF m 101 #[.val (.long xa), .second, .val (.long ya), .second, .val (.long za), .second, .val (.int pk), .val (.ref b457), .unset] [(.int ((ius pk (10 : Int32)) &&& (3 : Int32))), (.int (5 : Int32)), (.ref b457)]))
  refine Go.st (fun _ => XS.lloadN X467.here C.hx rfl (hb C.hby at_101) rfl) ?_
  show Go p e below s n0 _ _ _ (T467.setTop (mkF m 102 #[.val (.long xa), .second, .val (.long ya), .second, .val (.long za), .second, .val (.int pk), .val (.ref b457), .unset] [(.long xa), (.int ((ius pk (10 : Int32)) &&& (3 : Int32))), (.int (5 : Int32)), (.ref b457)]))
  refine Go.st (fun _ => XS.lloadN X467.here C.hx rfl (hb C.hby at_102) rfl) ?_
  show Go p e below s n0 _ _ _ (T467.setTop (mkF m 103 #[.val (.long xa), .second, .val (.long ya), .second, .val (.long za), .second, .val (.int pk), .val (.ref b457), .unset] [(.long ya), (.long xa), (.int ((ius pk (10 : Int32)) &&& (3 : Int32))), (.int (5 : Int32)), (.ref b457)]))
  refine Go.st (fun _ => XS.lload X467.here C.hx rfl (hb C.hby at_103) rfl) ?_
  show Go p e below s n0 _ _ _ (T467.setTop (mkF m 105 #[.val (.long xa), .second, .val (.long ya), .second, .val (.long za), .second, .val (.int pk), .val (.ref b457), .unset] [(.long za), (.long ya), (.long xa), (.int ((ius pk (10 : Int32)) &&& (3 : Int32))), (.int (5 : Int32)), (.ref b457)]))
  refine Go.callS C X467 (W := 2) (argsL := [(.int ((ius pk (10 : Int32)) &&& (3 : Int32))), (.long xa), (.long ya), (.long za)]) (rest := [(.int (5 : Int32)), (.ref b457)]) (wd 1 rfl) (wd 2 rfl) (wd 3 rfl) (wd 4 rfl) (by decide) (con_label l Z a0 hw n0 h467 X467.size ((ius pk (10 : Int32)) &&& (3 : Int32)) xa ya za) (by decide) (by decide) rfl (lenOf pd_1 rfl) (Nat.le_of_ble_eq_true rfl) rfl at_105 (by decide) (by decide) (fun T468 h468 v468 X468 hQ468 => ?_)
  obtain ⟨rfl, hh468⟩ := hQ468
  rw [hh468] at X468
  show Go p e below s n0 _ _ _ (T468.setTop (mkF m 108 #[.val (.long xa), .second, .val (.long ya), .second, .val (.long za), .second, .val (.int pk), .val (.ref b457), .unset] [(.long (labF ((ius pk (10 : Int32)) &&& (3 : Int32)) xa ya za)), (.int (5 : Int32)), (.ref b457)]))
  refine Go.lastore C X468 A_467 (by decide) (Nat.le_of_ble_eq_true rfl) ge457 at_108 (fun T469 h469 X469 W469 A469 => ?_)
  have A_469 : AR Z h469 b457 .long [(.long (labF (pk &&& (3 : Int32)) xa ya za)), (.long (labF ((ius pk (2 : Int32)) &&& (3 : Int32)) xa ya za)), (.long (labF ((ius pk (4 : Int32)) &&& (3 : Int32)) xa ya za)), (.long (labF ((ius pk (6 : Int32)) &&& (3 : Int32)) xa ya za)), (.long (labF ((ius pk (8 : Int32)) &&& (3 : Int32)) xa ya za)), (.long (labF ((ius pk (10 : Int32)) &&& (3 : Int32)) xa ya za))] := A469
  obtain ⟨sl, hsl⟩ : ∃ sl : List Int64, sl = [(labF (pk &&& (3 : Int32)) xa ya za), (labF ((ius pk (2 : Int32)) &&& (3 : Int32)) xa ya za), (labF ((ius pk (4 : Int32)) &&& (3 : Int32)) xa ya za), (labF ((ius pk (6 : Int32)) &&& (3 : Int32)) xa ya za), (labF ((ius pk (8 : Int32)) &&& (3 : Int32)) xa ya za), (labF ((ius pk (10 : Int32)) &&& (3 : Int32)) xa ya za)] := ⟨_, rfl⟩
  have hs : sl.length = 6 := by rw [hsl]; rfl
  have AS : AR Z h469 b457 .long (sl.map Value.long) := by rw [hsl]; exact A_469
  show Go p e below s n0 _ _ _ (T469.setTop (mkF m 109 #[.val (.long xa), .second, .val (.long ya), .second, .val (.long za), .second, .val (.int pk), .val (.ref b457), .unset] []))
  refine Go.st (fun _ => XS.bipush X469.here C.hx rfl (hb C.hby at_109)) ?_
  show Go p e below s n0 _ _ _ (T469.setTop (mkF m 111 #[.val (.long xa), .second, .val (.long ya), .second, .val (.long za), .second, .val (.int pk), .val (.ref b457), .unset] [(.int (6 : Int32))]))
  refine Go.newP C X469 (aty := .int) (cap := 6) (wd 5 rfl) at_111 (by decide) (by decide) (by decide) (by decide) (by decide) (fun T470 h470 b470 g470 ge470 X470 E470 A470 => ?_)
  have ne_b457_b470 : b457 ≠ b470 := Nat.ne_of_lt (Nat.lt_of_lt_of_le (AS).lt (Nat.le_of_eq g470))
  have A_b470 : AR Z h470 b470 .int [(.int (0 : Int32)), (.int (0 : Int32)), (.int (0 : Int32)), (.int (0 : Int32)), (.int (0 : Int32)), (.int (0 : Int32))] := A470
  show Go p e below s n0 _ _ _ (T470.setTop (mkF m 113 #[.val (.long xa), .second, .val (.long ya), .second, .val (.long za), .second, .val (.int pk), .val (.ref b457), .unset] [(.ref b470)]))
  refine Go.st (fun _ => XS.astore X470.here C.hx rfl (hb C.hby at_113) rfl rfl (l' := #[.val (.long xa), .second, .val (.long ya), .second, .val (.long za), .second, .val (.int pk), .val (.ref b457), .val (.ref b470)]) rfl) ?_
  have AB : AR Z h470 b470 .int ((Bn (Esl sl) 0).map fI) := A_b470
  show Go p e below s n0 _ _ _ (T470.setTop (mkF m 115 #[.val (.long xa), .second, .val (.long ya), .second, .val (.long za), .second, .val (.int pk), .val (.ref b457), .val (.ref b470)] []))
  refine Go.st (fun _ => XS.aload X470.here C.hx rfl (hb C.hby at_115) rfl rfl) ?_
  show Go p e below s n0 _ _ _ (T470.setTop (mkF m 117 #[.val (.long xa), .second, .val (.long ya), .second, .val (.long za), .second, .val (.int pk), .val (.ref b457), .val (.ref b470)] [(.ref b457)]))
  refine Go.st (fun _ => XS.aload X470.here C.hx rfl (hb C.hby at_117) rfl rfl) ?_
  show Go p e below s n0 _ _ _ (T470.setTop (mkF m 119 #[.val (.long xa), .second, .val (.long ya), .second, .val (.long za), .second, .val (.int pk), .val (.ref b457), .val (.ref b470)] [(.ref b470), (.ref b457)]))
  refine Go.st (fun _ => XS.iconst X470.here C.hx rfl (hb C.hby at_119)) ?_
  show Go p e below s n0 _ _ _ (T470.setTop (mkF m 120 #[.val (.long xa), .second, .val (.long ya), .second, .val (.long za), .second, .val (.int pk), .val (.ref b457), .val (.ref b470)] [(.int (0 : Int32)), (.ref b470), (.ref b457)]))
  refine Go.callS C X470 (W := 0) (argsL := [(.ref b457), (.ref b470), (.int (0 : Int32))]) (rest := []) (wd 6 rfl) (wd 7 rfl) (wd 8 rfl) (wd 9 rfl) (by decide) (con_ext l Z a0 hw n0 h470 X470.size b457 b470 (0 : Int32) 0 sl (Bn (Esl sl) 0) (by decide) ne_b457_b470 ge470 hs (inv_n _ 0) (by decide) (AS.ext E470) AB) (by decide) (by decide) rfl (lenOf pd_2 rfl) (Nat.le_of_ble_eq_true rfl) rfl at_120 (by decide) (by decide) (fun T471 h471 v471 X471 hQ471 => ?_)
  obtain ⟨rfl, A1471, A2471⟩ := hQ471
  show Go p e below s n0 _ _ _ (T471.setTop (mkF m 123 #[.val (.long xa), .second, .val (.long ya), .second, .val (.long za), .second, .val (.int pk), .val (.ref b457), .val (.ref b470)] []))
  refine Go.st (fun _ => XS.aload X471.here C.hx rfl (hb C.hby at_123) rfl rfl) ?_
  show Go p e below s n0 _ _ _ (T471.setTop (mkF m 125 #[.val (.long xa), .second, .val (.long ya), .second, .val (.long za), .second, .val (.int pk), .val (.ref b457), .val (.ref b470)] [(.ref b457)]))
  refine Go.st (fun _ => XS.aload X471.here C.hx rfl (hb C.hby at_125) rfl rfl) ?_
  show Go p e below s n0 _ _ _ (T471.setTop (mkF m 127 #[.val (.long xa), .second, .val (.long ya), .second, .val (.long za), .second, .val (.int pk), .val (.ref b457), .val (.ref b470)] [(.ref b470), (.ref b457)]))
  refine Go.st (fun _ => XS.iconst X471.here C.hx rfl (hb C.hby at_127)) ?_
  show Go p e below s n0 _ _ _ (T471.setTop (mkF m 128 #[.val (.long xa), .second, .val (.long ya), .second, .val (.long za), .second, .val (.int pk), .val (.ref b457), .val (.ref b470)] [(.int (1 : Int32)), (.ref b470), (.ref b457)]))
  refine Go.callS C X471 (W := 0) (argsL := [(.ref b457), (.ref b470), (.int (1 : Int32))]) (rest := []) (wd 6 rfl) (wd 7 rfl) (wd 8 rfl) (wd 9 rfl) (by decide) (con_ext l Z a0 hw n0 h471 X471.size b457 b470 (1 : Int32) 1 sl (Bn (Esl sl) 1) (by decide) ne_b457_b470 ge470 hs (inv_n _ 1) (by decide) A1471 A2471) (by decide) (by decide) rfl (lenOf pd_2 rfl) (Nat.le_of_ble_eq_true rfl) rfl at_128 (by decide) (by decide) (fun T472 h472 v472 X472 hQ472 => ?_)
  obtain ⟨rfl, A1472, A2472⟩ := hQ472
  show Go p e below s n0 _ _ _ (T472.setTop (mkF m 131 #[.val (.long xa), .second, .val (.long ya), .second, .val (.long za), .second, .val (.int pk), .val (.ref b457), .val (.ref b470)] []))
  refine Go.st (fun _ => XS.aload X472.here C.hx rfl (hb C.hby at_131) rfl rfl) ?_
  show Go p e below s n0 _ _ _ (T472.setTop (mkF m 133 #[.val (.long xa), .second, .val (.long ya), .second, .val (.long za), .second, .val (.int pk), .val (.ref b457), .val (.ref b470)] [(.ref b457)]))
  refine Go.st (fun _ => XS.aload X472.here C.hx rfl (hb C.hby at_133) rfl rfl) ?_
  show Go p e below s n0 _ _ _ (T472.setTop (mkF m 135 #[.val (.long xa), .second, .val (.long ya), .second, .val (.long za), .second, .val (.int pk), .val (.ref b457), .val (.ref b470)] [(.ref b470), (.ref b457)]))
  refine Go.st (fun _ => XS.iconst X472.here C.hx rfl (hb C.hby at_135)) ?_
  show Go p e below s n0 _ _ _ (T472.setTop (mkF m 136 #[.val (.long xa), .second, .val (.long ya), .second, .val (.long za), .second, .val (.int pk), .val (.ref b457), .val (.ref b470)] [(.int (2 : Int32)), (.ref b470), (.ref b457)]))
  refine Go.callS C X472 (W := 0) (argsL := [(.ref b457), (.ref b470), (.int (2 : Int32))]) (rest := []) (wd 6 rfl) (wd 7 rfl) (wd 8 rfl) (wd 9 rfl) (by decide) (con_ext l Z a0 hw n0 h472 X472.size b457 b470 (2 : Int32) 2 sl (Bn (Esl sl) 2) (by decide) ne_b457_b470 ge470 hs (inv_n _ 2) (by decide) A1472 A2472) (by decide) (by decide) rfl (lenOf pd_2 rfl) (Nat.le_of_ble_eq_true rfl) rfl at_136 (by decide) (by decide) (fun T473 h473 v473 X473 hQ473 => ?_)
  obtain ⟨rfl, A1473, A2473⟩ := hQ473
  show Go p e below s n0 _ _ _ (T473.setTop (mkF m 139 #[.val (.long xa), .second, .val (.long ya), .second, .val (.long za), .second, .val (.int pk), .val (.ref b457), .val (.ref b470)] []))
  refine Go.st (fun _ => XS.aload X473.here C.hx rfl (hb C.hby at_139) rfl rfl) ?_
  show Go p e below s n0 _ _ _ (T473.setTop (mkF m 141 #[.val (.long xa), .second, .val (.long ya), .second, .val (.long za), .second, .val (.int pk), .val (.ref b457), .val (.ref b470)] [(.ref b457)]))
  refine Go.st (fun _ => XS.aload X473.here C.hx rfl (hb C.hby at_141) rfl rfl) ?_
  show Go p e below s n0 _ _ _ (T473.setTop (mkF m 143 #[.val (.long xa), .second, .val (.long ya), .second, .val (.long za), .second, .val (.int pk), .val (.ref b457), .val (.ref b470)] [(.ref b470), (.ref b457)]))
  refine Go.st (fun _ => XS.iconst X473.here C.hx rfl (hb C.hby at_143)) ?_
  show Go p e below s n0 _ _ _ (T473.setTop (mkF m 144 #[.val (.long xa), .second, .val (.long ya), .second, .val (.long za), .second, .val (.int pk), .val (.ref b457), .val (.ref b470)] [(.int (3 : Int32)), (.ref b470), (.ref b457)]))
  refine Go.callS C X473 (W := 0) (argsL := [(.ref b457), (.ref b470), (.int (3 : Int32))]) (rest := []) (wd 6 rfl) (wd 7 rfl) (wd 8 rfl) (wd 9 rfl) (by decide) (con_ext l Z a0 hw n0 h473 X473.size b457 b470 (3 : Int32) 3 sl (Bn (Esl sl) 3) (by decide) ne_b457_b470 ge470 hs (inv_n _ 3) (by decide) A1473 A2473) (by decide) (by decide) rfl (lenOf pd_2 rfl) (Nat.le_of_ble_eq_true rfl) rfl at_144 (by decide) (by decide) (fun T474 h474 v474 X474 hQ474 => ?_)
  obtain ⟨rfl, A1474, A2474⟩ := hQ474
  show Go p e below s n0 _ _ _ (T474.setTop (mkF m 147 #[.val (.long xa), .second, .val (.long ya), .second, .val (.long za), .second, .val (.int pk), .val (.ref b457), .val (.ref b470)] []))
  refine Go.st (fun _ => XS.aload X474.here C.hx rfl (hb C.hby at_147) rfl rfl) ?_
  show Go p e below s n0 _ _ _ (T474.setTop (mkF m 149 #[.val (.long xa), .second, .val (.long ya), .second, .val (.long za), .second, .val (.int pk), .val (.ref b457), .val (.ref b470)] [(.ref b457)]))
  refine Go.st (fun _ => XS.aload X474.here C.hx rfl (hb C.hby at_149) rfl rfl) ?_
  show Go p e below s n0 _ _ _ (T474.setTop (mkF m 151 #[.val (.long xa), .second, .val (.long ya), .second, .val (.long za), .second, .val (.int pk), .val (.ref b457), .val (.ref b470)] [(.ref b470), (.ref b457)]))
  refine Go.st (fun _ => XS.iconst X474.here C.hx rfl (hb C.hby at_151)) ?_
  show Go p e below s n0 _ _ _ (T474.setTop (mkF m 152 #[.val (.long xa), .second, .val (.long ya), .second, .val (.long za), .second, .val (.int pk), .val (.ref b457), .val (.ref b470)] [(.int (4 : Int32)), (.ref b470), (.ref b457)]))
  refine Go.callS C X474 (W := 0) (argsL := [(.ref b457), (.ref b470), (.int (4 : Int32))]) (rest := []) (wd 6 rfl) (wd 7 rfl) (wd 8 rfl) (wd 9 rfl) (by decide) (con_ext l Z a0 hw n0 h474 X474.size b457 b470 (4 : Int32) 4 sl (Bn (Esl sl) 4) (by decide) ne_b457_b470 ge470 hs (inv_n _ 4) (by decide) A1474 A2474) (by decide) (by decide) rfl (lenOf pd_2 rfl) (Nat.le_of_ble_eq_true rfl) rfl at_152 (by decide) (by decide) (fun T475 h475 v475 X475 hQ475 => ?_)
  obtain ⟨rfl, A1475, A2475⟩ := hQ475
  show Go p e below s n0 _ _ _ (T475.setTop (mkF m 155 #[.val (.long xa), .second, .val (.long ya), .second, .val (.long za), .second, .val (.int pk), .val (.ref b457), .val (.ref b470)] []))
  refine Go.st (fun _ => XS.aload X475.here C.hx rfl (hb C.hby at_155) rfl rfl) ?_
  show Go p e below s n0 _ _ _ (T475.setTop (mkF m 157 #[.val (.long xa), .second, .val (.long ya), .second, .val (.long za), .second, .val (.int pk), .val (.ref b457), .val (.ref b470)] [(.ref b457)]))
  refine Go.st (fun _ => XS.aload X475.here C.hx rfl (hb C.hby at_157) rfl rfl) ?_
  show Go p e below s n0 _ _ _ (T475.setTop (mkF m 159 #[.val (.long xa), .second, .val (.long ya), .second, .val (.long za), .second, .val (.int pk), .val (.ref b457), .val (.ref b470)] [(.ref b470), (.ref b457)]))
  refine Go.st (fun _ => XS.iconst X475.here C.hx rfl (hb C.hby at_159)) ?_
  show Go p e below s n0 _ _ _ (T475.setTop (mkF m 160 #[.val (.long xa), .second, .val (.long ya), .second, .val (.long za), .second, .val (.int pk), .val (.ref b457), .val (.ref b470)] [(.int (5 : Int32)), (.ref b470), (.ref b457)]))
  refine Go.callS C X475 (W := 0) (argsL := [(.ref b457), (.ref b470), (.int (5 : Int32))]) (rest := []) (wd 6 rfl) (wd 7 rfl) (wd 8 rfl) (wd 9 rfl) (by decide) (con_ext l Z a0 hw n0 h475 X475.size b457 b470 (5 : Int32) 5 sl (Bn (Esl sl) 5) (by decide) ne_b457_b470 ge470 hs (inv_n _ 5) (by decide) A1475 A2475) (by decide) (by decide) rfl (lenOf pd_2 rfl) (Nat.le_of_ble_eq_true rfl) rfl at_160 (by decide) (by decide) (fun T476 h476 v476 X476 hQ476 => ?_)
  obtain ⟨rfl, A1476, A2476⟩ := hQ476
  show Go p e below s n0 _ _ _ (T476.setTop (mkF m 163 #[.val (.long xa), .second, .val (.long ya), .second, .val (.long za), .second, .val (.int pk), .val (.ref b457), .val (.ref b470)] []))
  refine Go.st (fun _ => XS.aload X476.here C.hx rfl (hb C.hby at_163) rfl rfl) ?_
  show Go p e below s n0 _ _ _ (T476.setTop (mkF m 165 #[.val (.long xa), .second, .val (.long ya), .second, .val (.long za), .second, .val (.int pk), .val (.ref b457), .val (.ref b470)] [(.ref b470)]))
  refine Go.st (fun _ => XS.iconst X476.here C.hx rfl (hb C.hby at_165)) ?_
  show Go p e below s n0 _ _ _ (T476.setTop (mkF m 166 #[.val (.long xa), .second, .val (.long ya), .second, .val (.long za), .second, .val (.int pk), .val (.ref b457), .val (.ref b470)] [(.int (0 : Int32)), (.ref b470)]))
  refine Go.iaload C X476 A2476 (by decide) (getB (i := 0) (inv_n _ 6).1 (by decide)) at_166 ?_
  show Go p e below s n0 _ _ _ (T476.setTop (mkF m 167 #[.val (.long xa), .second, .val (.long ya), .second, .val (.long za), .second, .val (.int pk), .val (.ref b457), .val (.ref b470)] [(.int ((Bn (Esl sl) 6).getD 0 0).toInt32)]))
  refine Go.st (fun _ => XS.aload X476.here C.hx rfl (hb C.hby at_167) rfl rfl) ?_
  show Go p e below s n0 _ _ _ (T476.setTop (mkF m 169 #[.val (.long xa), .second, .val (.long ya), .second, .val (.long za), .second, .val (.int pk), .val (.ref b457), .val (.ref b470)] [(.ref b457), (.int ((Bn (Esl sl) 6).getD 0 0).toInt32)]))
  refine Go.st (fun _ => XS.iconst X476.here C.hx rfl (hb C.hby at_169)) ?_
  show Go p e below s n0 _ _ _ (T476.setTop (mkF m 170 #[.val (.long xa), .second, .val (.long ya), .second, .val (.long za), .second, .val (.int pk), .val (.ref b457), .val (.ref b470)] [(.int (1 : Int32)), (.ref b457), (.int ((Bn (Esl sl) 6).getD 0 0).toInt32)]))
  refine Go.callS C X476 (W := 1) (argsL := [(.ref b457), (.int (1 : Int32))]) (rest := [(.int ((Bn (Esl sl) 6).getD 0 0).toInt32)]) (wd 10 rfl) (wd 11 rfl) (wd 3 rfl) (wd 12 rfl) (by decide) (con_border_1 l Z a0 hw n0 h476 X476.size b457 sl hs A1476) (by decide) (by decide) rfl (lenOf pd_3 rfl) (Nat.le_of_ble_eq_true rfl) rfl at_170 (by decide) (by decide) (fun T477 h477 v477 X477 hQ477 => ?_)
  obtain ⟨rfl, hh477⟩ := hQ477
  rw [hh477] at X477
  show Go p e below s n0 _ _ _ (T477.setTop (mkF m 173 #[.val (.long xa), .second, .val (.long ya), .second, .val (.long za), .second, .val (.int pk), .val (.ref b457), .val (.ref b470)] [(.int (bordE (Esl sl) 1).toInt32), (.int ((Bn (Esl sl) 6).getD 0 0).toInt32)]))
  refine Go.icmp_ne C X477 (pc' := 246) at_173 (by decide) (by decide) (fun hc => by first | exact absurd hc (eqB (j := 0) (by decide)) | exact absurd (eqB (j := 0) (by decide)) hc) (fun _ => ?_)
  show Go p e below s n0 _ _ _ (T477.setTop (mkF m 176 #[.val (.long xa), .second, .val (.long ya), .second, .val (.long za), .second, .val (.int pk), .val (.ref b457), .val (.ref b470)] []))
  refine Go.st (fun _ => XS.aload X477.here C.hx rfl (hb C.hby at_176) rfl rfl) ?_
  show Go p e below s n0 _ _ _ (T477.setTop (mkF m 178 #[.val (.long xa), .second, .val (.long ya), .second, .val (.long za), .second, .val (.int pk), .val (.ref b457), .val (.ref b470)] [(.ref b470)]))
  refine Go.st (fun _ => XS.iconst X477.here C.hx rfl (hb C.hby at_178)) ?_
  show Go p e below s n0 _ _ _ (T477.setTop (mkF m 179 #[.val (.long xa), .second, .val (.long ya), .second, .val (.long za), .second, .val (.int pk), .val (.ref b457), .val (.ref b470)] [(.int (1 : Int32)), (.ref b470)]))
  refine Go.iaload C X477 A2476 (by decide) (getB (i := 1) (inv_n _ 6).1 (by decide)) at_179 ?_
  show Go p e below s n0 _ _ _ (T477.setTop (mkF m 180 #[.val (.long xa), .second, .val (.long ya), .second, .val (.long za), .second, .val (.int pk), .val (.ref b457), .val (.ref b470)] [(.int ((Bn (Esl sl) 6).getD 1 0).toInt32)]))
  refine Go.st (fun _ => XS.aload X477.here C.hx rfl (hb C.hby at_180) rfl rfl) ?_
  show Go p e below s n0 _ _ _ (T477.setTop (mkF m 182 #[.val (.long xa), .second, .val (.long ya), .second, .val (.long za), .second, .val (.int pk), .val (.ref b457), .val (.ref b470)] [(.ref b457), (.int ((Bn (Esl sl) 6).getD 1 0).toInt32)]))
  refine Go.st (fun _ => XS.iconst X477.here C.hx rfl (hb C.hby at_182)) ?_
  show Go p e below s n0 _ _ _ (T477.setTop (mkF m 183 #[.val (.long xa), .second, .val (.long ya), .second, .val (.long za), .second, .val (.int pk), .val (.ref b457), .val (.ref b470)] [(.int (2 : Int32)), (.ref b457), (.int ((Bn (Esl sl) 6).getD 1 0).toInt32)]))
  refine Go.callS C X477 (W := 1) (argsL := [(.ref b457), (.int (2 : Int32))]) (rest := [(.int ((Bn (Esl sl) 6).getD 1 0).toInt32)]) (wd 10 rfl) (wd 11 rfl) (wd 3 rfl) (wd 12 rfl) (by decide) (con_border_2 l Z a0 hw n0 h476 X477.size b457 sl hs A1476) (by decide) (by decide) rfl (lenOf pd_3 rfl) (Nat.le_of_ble_eq_true rfl) rfl at_183 (by decide) (by decide) (fun T479 h479 v479 X479 hQ479 => ?_)
  obtain ⟨rfl, hh479⟩ := hQ479
  rw [hh479] at X479
  show Go p e below s n0 _ _ _ (T479.setTop (mkF m 186 #[.val (.long xa), .second, .val (.long ya), .second, .val (.long za), .second, .val (.int pk), .val (.ref b457), .val (.ref b470)] [(.int (bordE (Esl sl) 2).toInt32), (.int ((Bn (Esl sl) 6).getD 1 0).toInt32)]))
  refine Go.icmp_ne C X479 (pc' := 246) at_186 (by decide) (by decide) (fun hc => by first | exact absurd hc (eqB (j := 1) (by decide)) | exact absurd (eqB (j := 1) (by decide)) hc) (fun _ => ?_)
  show Go p e below s n0 _ _ _ (T479.setTop (mkF m 189 #[.val (.long xa), .second, .val (.long ya), .second, .val (.long za), .second, .val (.int pk), .val (.ref b457), .val (.ref b470)] []))
  refine Go.st (fun _ => XS.aload X479.here C.hx rfl (hb C.hby at_189) rfl rfl) ?_
  show Go p e below s n0 _ _ _ (T479.setTop (mkF m 191 #[.val (.long xa), .second, .val (.long ya), .second, .val (.long za), .second, .val (.int pk), .val (.ref b457), .val (.ref b470)] [(.ref b470)]))
  refine Go.st (fun _ => XS.iconst X479.here C.hx rfl (hb C.hby at_191)) ?_
  show Go p e below s n0 _ _ _ (T479.setTop (mkF m 192 #[.val (.long xa), .second, .val (.long ya), .second, .val (.long za), .second, .val (.int pk), .val (.ref b457), .val (.ref b470)] [(.int (2 : Int32)), (.ref b470)]))
  refine Go.iaload C X479 A2476 (by decide) (getB (i := 2) (inv_n _ 6).1 (by decide)) at_192 ?_
  show Go p e below s n0 _ _ _ (T479.setTop (mkF m 193 #[.val (.long xa), .second, .val (.long ya), .second, .val (.long za), .second, .val (.int pk), .val (.ref b457), .val (.ref b470)] [(.int ((Bn (Esl sl) 6).getD 2 0).toInt32)]))
  refine Go.st (fun _ => XS.aload X479.here C.hx rfl (hb C.hby at_193) rfl rfl) ?_
  show Go p e below s n0 _ _ _ (T479.setTop (mkF m 195 #[.val (.long xa), .second, .val (.long ya), .second, .val (.long za), .second, .val (.int pk), .val (.ref b457), .val (.ref b470)] [(.ref b457), (.int ((Bn (Esl sl) 6).getD 2 0).toInt32)]))
  refine Go.st (fun _ => XS.iconst X479.here C.hx rfl (hb C.hby at_195)) ?_
  show Go p e below s n0 _ _ _ (T479.setTop (mkF m 196 #[.val (.long xa), .second, .val (.long ya), .second, .val (.long za), .second, .val (.int pk), .val (.ref b457), .val (.ref b470)] [(.int (3 : Int32)), (.ref b457), (.int ((Bn (Esl sl) 6).getD 2 0).toInt32)]))
  refine Go.callS C X479 (W := 1) (argsL := [(.ref b457), (.int (3 : Int32))]) (rest := [(.int ((Bn (Esl sl) 6).getD 2 0).toInt32)]) (wd 10 rfl) (wd 11 rfl) (wd 3 rfl) (wd 12 rfl) (by decide) (con_border_3 l Z a0 hw n0 h476 X479.size b457 sl hs A1476) (by decide) (by decide) rfl (lenOf pd_3 rfl) (Nat.le_of_ble_eq_true rfl) rfl at_196 (by decide) (by decide) (fun T481 h481 v481 X481 hQ481 => ?_)
  obtain ⟨rfl, hh481⟩ := hQ481
  rw [hh481] at X481
  show Go p e below s n0 _ _ _ (T481.setTop (mkF m 199 #[.val (.long xa), .second, .val (.long ya), .second, .val (.long za), .second, .val (.int pk), .val (.ref b457), .val (.ref b470)] [(.int (bordE (Esl sl) 3).toInt32), (.int ((Bn (Esl sl) 6).getD 2 0).toInt32)]))
  refine Go.icmp_ne C X481 (pc' := 246) at_199 (by decide) (by decide) (fun hc => by first | exact absurd hc (eqB (j := 2) (by decide)) | exact absurd (eqB (j := 2) (by decide)) hc) (fun _ => ?_)
  show Go p e below s n0 _ _ _ (T481.setTop (mkF m 202 #[.val (.long xa), .second, .val (.long ya), .second, .val (.long za), .second, .val (.int pk), .val (.ref b457), .val (.ref b470)] []))
  refine Go.st (fun _ => XS.aload X481.here C.hx rfl (hb C.hby at_202) rfl rfl) ?_
  show Go p e below s n0 _ _ _ (T481.setTop (mkF m 204 #[.val (.long xa), .second, .val (.long ya), .second, .val (.long za), .second, .val (.int pk), .val (.ref b457), .val (.ref b470)] [(.ref b470)]))
  refine Go.st (fun _ => XS.iconst X481.here C.hx rfl (hb C.hby at_204)) ?_
  show Go p e below s n0 _ _ _ (T481.setTop (mkF m 205 #[.val (.long xa), .second, .val (.long ya), .second, .val (.long za), .second, .val (.int pk), .val (.ref b457), .val (.ref b470)] [(.int (3 : Int32)), (.ref b470)]))
  refine Go.iaload C X481 A2476 (by decide) (getB (i := 3) (inv_n _ 6).1 (by decide)) at_205 ?_
  show Go p e below s n0 _ _ _ (T481.setTop (mkF m 206 #[.val (.long xa), .second, .val (.long ya), .second, .val (.long za), .second, .val (.int pk), .val (.ref b457), .val (.ref b470)] [(.int ((Bn (Esl sl) 6).getD 3 0).toInt32)]))
  refine Go.st (fun _ => XS.aload X481.here C.hx rfl (hb C.hby at_206) rfl rfl) ?_
  show Go p e below s n0 _ _ _ (T481.setTop (mkF m 208 #[.val (.long xa), .second, .val (.long ya), .second, .val (.long za), .second, .val (.int pk), .val (.ref b457), .val (.ref b470)] [(.ref b457), (.int ((Bn (Esl sl) 6).getD 3 0).toInt32)]))
  refine Go.st (fun _ => XS.iconst X481.here C.hx rfl (hb C.hby at_208)) ?_
  show Go p e below s n0 _ _ _ (T481.setTop (mkF m 209 #[.val (.long xa), .second, .val (.long ya), .second, .val (.long za), .second, .val (.int pk), .val (.ref b457), .val (.ref b470)] [(.int (4 : Int32)), (.ref b457), (.int ((Bn (Esl sl) 6).getD 3 0).toInt32)]))
  refine Go.callS C X481 (W := 1) (argsL := [(.ref b457), (.int (4 : Int32))]) (rest := [(.int ((Bn (Esl sl) 6).getD 3 0).toInt32)]) (wd 10 rfl) (wd 11 rfl) (wd 3 rfl) (wd 12 rfl) (by decide) (con_border_4 l Z a0 hw n0 h476 X481.size b457 sl hs A1476) (by decide) (by decide) rfl (lenOf pd_3 rfl) (Nat.le_of_ble_eq_true rfl) rfl at_209 (by decide) (by decide) (fun T483 h483 v483 X483 hQ483 => ?_)
  obtain ⟨rfl, hh483⟩ := hQ483
  rw [hh483] at X483
  show Go p e below s n0 _ _ _ (T483.setTop (mkF m 212 #[.val (.long xa), .second, .val (.long ya), .second, .val (.long za), .second, .val (.int pk), .val (.ref b457), .val (.ref b470)] [(.int (bordE (Esl sl) 4).toInt32), (.int ((Bn (Esl sl) 6).getD 3 0).toInt32)]))
  refine Go.icmp_ne C X483 (pc' := 246) at_212 (by decide) (by decide) (fun hc => by first | exact absurd hc (eqB (j := 3) (by decide)) | exact absurd (eqB (j := 3) (by decide)) hc) (fun _ => ?_)
  show Go p e below s n0 _ _ _ (T483.setTop (mkF m 215 #[.val (.long xa), .second, .val (.long ya), .second, .val (.long za), .second, .val (.int pk), .val (.ref b457), .val (.ref b470)] []))
  refine Go.st (fun _ => XS.aload X483.here C.hx rfl (hb C.hby at_215) rfl rfl) ?_
  show Go p e below s n0 _ _ _ (T483.setTop (mkF m 217 #[.val (.long xa), .second, .val (.long ya), .second, .val (.long za), .second, .val (.int pk), .val (.ref b457), .val (.ref b470)] [(.ref b470)]))
  refine Go.st (fun _ => XS.iconst X483.here C.hx rfl (hb C.hby at_217)) ?_
  show Go p e below s n0 _ _ _ (T483.setTop (mkF m 218 #[.val (.long xa), .second, .val (.long ya), .second, .val (.long za), .second, .val (.int pk), .val (.ref b457), .val (.ref b470)] [(.int (4 : Int32)), (.ref b470)]))
  refine Go.iaload C X483 A2476 (by decide) (getB (i := 4) (inv_n _ 6).1 (by decide)) at_218 ?_
  show Go p e below s n0 _ _ _ (T483.setTop (mkF m 219 #[.val (.long xa), .second, .val (.long ya), .second, .val (.long za), .second, .val (.int pk), .val (.ref b457), .val (.ref b470)] [(.int ((Bn (Esl sl) 6).getD 4 0).toInt32)]))
  refine Go.st (fun _ => XS.aload X483.here C.hx rfl (hb C.hby at_219) rfl rfl) ?_
  show Go p e below s n0 _ _ _ (T483.setTop (mkF m 221 #[.val (.long xa), .second, .val (.long ya), .second, .val (.long za), .second, .val (.int pk), .val (.ref b457), .val (.ref b470)] [(.ref b457), (.int ((Bn (Esl sl) 6).getD 4 0).toInt32)]))
  refine Go.st (fun _ => XS.iconst X483.here C.hx rfl (hb C.hby at_221)) ?_
  show Go p e below s n0 _ _ _ (T483.setTop (mkF m 222 #[.val (.long xa), .second, .val (.long ya), .second, .val (.long za), .second, .val (.int pk), .val (.ref b457), .val (.ref b470)] [(.int (5 : Int32)), (.ref b457), (.int ((Bn (Esl sl) 6).getD 4 0).toInt32)]))
  refine Go.callS C X483 (W := 1) (argsL := [(.ref b457), (.int (5 : Int32))]) (rest := [(.int ((Bn (Esl sl) 6).getD 4 0).toInt32)]) (wd 10 rfl) (wd 11 rfl) (wd 3 rfl) (wd 12 rfl) (by decide) (con_border_5 l Z a0 hw n0 h476 X483.size b457 sl hs A1476) (by decide) (by decide) rfl (lenOf pd_3 rfl) (Nat.le_of_ble_eq_true rfl) rfl at_222 (by decide) (by decide) (fun T485 h485 v485 X485 hQ485 => ?_)
  obtain ⟨rfl, hh485⟩ := hQ485
  rw [hh485] at X485
  show Go p e below s n0 _ _ _ (T485.setTop (mkF m 225 #[.val (.long xa), .second, .val (.long ya), .second, .val (.long za), .second, .val (.int pk), .val (.ref b457), .val (.ref b470)] [(.int (bordE (Esl sl) 5).toInt32), (.int ((Bn (Esl sl) 6).getD 4 0).toInt32)]))
  refine Go.icmp_ne C X485 (pc' := 246) at_225 (by decide) (by decide) (fun hc => by first | exact absurd hc (eqB (j := 4) (by decide)) | exact absurd (eqB (j := 4) (by decide)) hc) (fun _ => ?_)
  show Go p e below s n0 _ _ _ (T485.setTop (mkF m 228 #[.val (.long xa), .second, .val (.long ya), .second, .val (.long za), .second, .val (.int pk), .val (.ref b457), .val (.ref b470)] []))
  refine Go.st (fun _ => XS.aload X485.here C.hx rfl (hb C.hby at_228) rfl rfl) ?_
  show Go p e below s n0 _ _ _ (T485.setTop (mkF m 230 #[.val (.long xa), .second, .val (.long ya), .second, .val (.long za), .second, .val (.int pk), .val (.ref b457), .val (.ref b470)] [(.ref b470)]))
  refine Go.st (fun _ => XS.iconst X485.here C.hx rfl (hb C.hby at_230)) ?_
  show Go p e below s n0 _ _ _ (T485.setTop (mkF m 231 #[.val (.long xa), .second, .val (.long ya), .second, .val (.long za), .second, .val (.int pk), .val (.ref b457), .val (.ref b470)] [(.int (5 : Int32)), (.ref b470)]))
  refine Go.iaload C X485 A2476 (by decide) (getB (i := 5) (inv_n _ 6).1 (by decide)) at_231 ?_
  show Go p e below s n0 _ _ _ (T485.setTop (mkF m 232 #[.val (.long xa), .second, .val (.long ya), .second, .val (.long za), .second, .val (.int pk), .val (.ref b457), .val (.ref b470)] [(.int ((Bn (Esl sl) 6).getD 5 0).toInt32)]))
  refine Go.st (fun _ => XS.aload X485.here C.hx rfl (hb C.hby at_232) rfl rfl) ?_
  show Go p e below s n0 _ _ _ (T485.setTop (mkF m 234 #[.val (.long xa), .second, .val (.long ya), .second, .val (.long za), .second, .val (.int pk), .val (.ref b457), .val (.ref b470)] [(.ref b457), (.int ((Bn (Esl sl) 6).getD 5 0).toInt32)]))
  refine Go.st (fun _ => XS.bipush X485.here C.hx rfl (hb C.hby at_234)) ?_
  show Go p e below s n0 _ _ _ (T485.setTop (mkF m 236 #[.val (.long xa), .second, .val (.long ya), .second, .val (.long za), .second, .val (.int pk), .val (.ref b457), .val (.ref b470)] [(.int (6 : Int32)), (.ref b457), (.int ((Bn (Esl sl) 6).getD 5 0).toInt32)]))
  refine Go.callS C X485 (W := 1) (argsL := [(.ref b457), (.int (6 : Int32))]) (rest := [(.int ((Bn (Esl sl) 6).getD 5 0).toInt32)]) (wd 10 rfl) (wd 11 rfl) (wd 3 rfl) (wd 12 rfl) (by decide) (con_border_6 l Z a0 hw n0 h476 X485.size b457 sl hs A1476) (by decide) (by decide) rfl (lenOf pd_3 rfl) (Nat.le_of_ble_eq_true rfl) rfl at_236 (by decide) (by decide) (fun T487 h487 v487 X487 hQ487 => ?_)
  obtain ⟨rfl, hh487⟩ := hQ487
  rw [hh487] at X487
  show Go p e below s n0 _ _ _ (T487.setTop (mkF m 239 #[.val (.long xa), .second, .val (.long ya), .second, .val (.long za), .second, .val (.int pk), .val (.ref b457), .val (.ref b470)] [(.int (bordE (Esl sl) 6).toInt32), (.int ((Bn (Esl sl) 6).getD 5 0).toInt32)]))
  refine Go.icmp_ne C X487 (pc' := 246) at_239 (by decide) (by decide) (fun hc => by first | exact absurd hc (eqB (j := 5) (by decide)) | exact absurd (eqB (j := 5) (by decide)) hc) (fun _ => ?_)
  show Go p e below s n0 _ _ _ (T487.setTop (mkF m 242 #[.val (.long xa), .second, .val (.long ya), .second, .val (.long za), .second, .val (.int pk), .val (.ref b457), .val (.ref b470)] []))
  refine Go.st (fun _ => XS.iconst X487.here C.hx rfl (hb C.hby at_242)) ?_
  show Go p e below s n0 _ _ _ (T487.setTop (mkF m 243 #[.val (.long xa), .second, .val (.long ya), .second, .val (.long za), .second, .val (.int pk), .val (.ref b457), .val (.ref b470)] [(.int (1 : Int32))]))
  refine Go.st (fun _ => XS.goto X487.here C.hx rfl (pc0 := 243) (pc' := 247) rfl (hb C.hby at_243) (by decide) (by decide)) ?_
  show Go p e below s n0 _ _ _ (T487.setTop (mkF m 247 #[.val (.long xa), .second, .val (.long ya), .second, .val (.long za), .second, .val (.int pk), .val (.ref b457), .val (.ref b470)] [(.int (1 : Int32))]))
  exact Go.retZ C X487 (by decide) at_247 rfl (by decide) (by decide)
set_option maxRecDepth 65536 in
set_option maxHeartbeats 40000000 in
theorem comes_1 {Post : Tables → Env → Array Value → State → Outcome → State → Prop} (hpost : ∀ tb e args s v u, (limb_1_1.after args s (.returned v) u = true ∧ limb_1_2.after args s (.returned v) u = true ∧ True) → FrameEnd s (.returned v) u (Jvm.fieldLocs frame_1_writes args s ++ Jvm.arrayLocs frame_1_arrays args s ++ Jvm.staticLocs frame_1_statics s) 16 128 → Post tb e args s (.returned v) u) :
    ArmFor flags0 classFile x code maxLocals ret World_1 tables_1 room_1 Calls_1 rest_1 Pre_1 Post := by
  intro l hfl _ _ p e ha hc hk s m args below hf hA hF happ hP
  obtain ⟨hcalls, hrest, hpre⟩ := hP
  obtain ⟨-, -, -, hnamed, -, -, -, hat⟩ := (Spec.applies_iff hf).mp happ
  obtain ⟨hg, hn⟩ := and_e (Cond.before_iff.mp (show (Jvm.Cond.and given_1 narrow_1).before args s = true from hpre))
  obtain ⟨h1, hr0⟩ := and_e hg
  obtain ⟨ha0, hr1⟩ := and_e hr0
  obtain ⟨ha1, hr2⟩ := and_e hr1
  obtain ⟨ha2, hr3⟩ := and_e hr2
  have ha3 := hr3
  obtain ⟨w0, w1, w2, w3, rfl⟩ : ∃ w0 w1 w2 w3 : Value, args = #[w0, w1, w2, w3] := by
    have hs : args.size = 4 := by simpa [Cond.value, given_1] using h1
    obtain ⟨L⟩ := args
    match L, hs with
    | [w0, w1, w2, w3], _ => exact ⟨w0, w1, w2, w3, rfl⟩
  have hw := fun d (hd : d ∈ tables_1) => atoms_spec (ws := Jvm.Cond.code x code maxLocals ret :: tables_1) hat d (List.mem_cons_of_mem _ hd)
  obtain ⟨i0, e0⟩ := isL_v ha0
  obtain rfl : w0 = (.long i0) := Option.some.inj e0
  obtain ⟨i1, e1⟩ := isL_v ha1
  obtain rfl : w1 = (.long i1) := Option.some.inj e1
  obtain ⟨i2, e2⟩ := isL_v ha2
  obtain rfl : w2 = (.long i2) := Option.some.inj e2
  obtain ⟨i3, e3⟩ := is_v ha3
  obtain rfl : w3 = (.int i3) := Option.some.inj e3
  obtain ⟨n, o, h1, h2, h3, _, L, rfl, ⟨rfl, N⟩, hq⟩ := con_law l s _ hw s.heap.size s.heap (Nat.le_refl _) i0 i1 i2 i3  p e ha hc hk s m _ below hf ((Spec.applies_iff_loose hf).mp happ).1 ⟨rfl, State.Warmed39.refl s, rfl⟩ trivial
  refine ⟨n, _, h1, h2, h3, hpost _ _ _ _ _ _ ⟨Cond.after_iff.mpr rfl, Cond.after_iff.mpr (eq_i res_at (Term.int_eval (1)) rfl), trivial⟩ ⟨hq.1, hq.2.1, (hq.2.2.sift fun y hy => Or.inr (N y hy)).mono (by decide) (by decide)⟩⟩
theorem main_1_1 : Claimed_1_1 := comes_1 fun _ _ _ _ _ _ h hF => ⟨h.1, hF⟩
theorem main_1_2 : Claimed_1_2 := comes_1 fun _ _ _ _ _ _ h hF => ⟨h.2.1, hF⟩
end Jvm.Pilot.@@N@@
namespace Jvm.Pilot.@@N@@
open Jvm Jvm.ClassFile Sem Op Lib Jvm.Free Jvm.Stand Jvm.Pilot.@@N@@.Jvm.D
/-! MADE BY PROGRAM (witnessworld.py) out of the Statement's table words and the real class files: 11 classes; the members and pool entries that the words name. The judged class is class 1, her method 4. -/
namespace start1
open Jvm.ClassFile
def u (s : String) : CpInfo := .utf8 (stringToUtf16 s)
/-- a pool by its gaps: so many unusable entries, then the entry; so many at the end -/
def gap : Nat → List CpInfo → List CpInfo
  | 0, r => r
  | n + 1, r => .unusable :: gap n r
def poolList (es : List (Nat × CpInfo)) (last : Nat) : List CpInfo := es.foldr (fun e r => gap e.1 (e.2 :: r)) (gap last [])
def pool (es : List (Nat × CpInfo)) (last : Nat) : Array CpInfo := ⟨poolList es last⟩
def fileOf (pool : Array CpInfo) (this : Nat) (attrs : Array Attribute := #[]) (ms : Array MethodInfo := #[]) (fl : Nat := 33) (sup : Nat := 0) (ifs : Array Nat := #[]) (fds : Array FieldInfo := #[]) : ClassFile where
  minorVersion := 0
  majorVersion := 65
  constantPool := pool
  accessFlags := fl
  thisClass := this
  superClass := sup
  interfaces := ifs
  fields := fds
  methods := ms
  attributes := attrs
def plain (name : String) (sup : Option ClassId) : Class where
  name := name
  kind := .ordinary
  loader := none
  accessFlags := 33
  super := sup
  interfaces := #[]
  cf := none
  fields := #[]
  methods := #[]
  instanceTypes := #[]
  staticTypes := #[]
  resolved := #[]
  callSites := []
  init := .initialized
  statics := none
  mirror := none

def pool0 : Array CpInfo := pool [(5, u "<init>"), (0, u "()V"), (1, .class_ 10), (1, u "java/lang/Object")] 113

def k0m0 : Method := { name := "<init>", desc := "()V", sig := { parameters := [], returnType := none }, accessFlags := 1, code := none }
/-- java/lang/Object -/
def k0 : Class := { plain "java/lang/Object" none with
  accessFlags := 33
  interfaces := #[]
  cf := some (fileOf pool0 8 #[] #[{ accessFlags := 1, nameIndex := 5, descriptorIndex := 6, attributes := #[] }] 33 0 #[] #[])
  fields := #[]
  methods := #[k0m0]
  instanceTypes := #[]
  staticTypes := #[]
  resolved := Array.replicate 124 none
  statics := none }

def pool1 : Array CpInfo := pool [(2, .class_ 4), (1, u "java/lang/Object"), (0, u "<init>"), (0, u "()V"), (0, .long 4294967296), (1, .methodref 10 11), (0, .class_ 12), (0, .nameAndType 13 14), (0, u "com/example/orderly_ring/orderlyring/model/SequencesExtendBordersPinLaw"), (0, u "same"), (0, u "([JII)Z"), (0, .methodref 10 16), (0, .nameAndType 17 18), (0, u "label"), (0, u "(IJJJ)J"), (0, .methodref 20 21), (0, .class_ 22), (0, .nameAndType 23 24), (0, u "com/example/orderly_ring/orderlyring/model/Sequences"), (0, u "extendBorders"), (0, u "([J[II)V"), (0, .methodref 10 26), (0, .nameAndType 27 28), (0, u "border"), (0, u "([JI)I"), (3, u "law"), (0, u "(JJJI)Z")] 6

def k1m0 : Method := { name := "<init>", desc := "()V", sig := { parameters := [], returnType := none }, accessFlags := 2, code := none }
def k1c1 : Code := { maxStack := 4, maxLocals := 7, code := method_2_code, exceptionTable := #[], attributes := #[] }
def k1m1 : Method := { name := "label", desc := "(IJJJ)J", sig := { parameters := [.int, .long, .long, .long], returnType := some .long }, accessFlags := 10, code := some k1c1 }
def k1c2 : Code := { maxStack := 5, maxLocals := 5, code := method_3_code, exceptionTable := #[], attributes := #[] }
def k1m2 : Method := { name := "same", desc := "([JII)Z", sig := { parameters := [(.array .long), .int, .int], returnType := some .boolean }, accessFlags := 10, code := some k1c2 }
def k1c3 : Code := { maxStack := 3, maxLocals := 2, code := method_4_code, exceptionTable := #[], attributes := #[] }
def k1m3 : Method := { name := "border", desc := "([JI)I", sig := { parameters := [(.array .long), .int], returnType := some .int }, accessFlags := 10, code := some k1c3 }
def k1c4 : Code := { maxStack := 9, maxLocals := 9, code := code, exceptionTable := #[], attributes := #[] }
def k1m4 : Method := { name := "law", desc := "(JJJI)Z", sig := { parameters := [.long, .long, .long, .int], returnType := some .boolean }, accessFlags := 9, code := some k1c4 }
/-- com/example/orderly_ring/orderlyring/model/SequencesExtendBordersPinLaw -/
def k1 : Class := { plain "com/example/orderly_ring/orderlyring/model/SequencesExtendBordersPinLaw" (some 0) with
  accessFlags := 49
  interfaces := #[]
  cf := some (fileOf pool1 10 #[] #[{ accessFlags := 2, nameIndex := 5, descriptorIndex := 6, attributes := #[] }, { accessFlags := 10, nameIndex := 17, descriptorIndex := 18, attributes := #[] }, { accessFlags := 10, nameIndex := 13, descriptorIndex := 14, attributes := #[] }, { accessFlags := 10, nameIndex := 27, descriptorIndex := 28, attributes := #[] }, { accessFlags := 9, nameIndex := 32, descriptorIndex := 33, attributes := #[] }] 49 2 #[] #[])
  fields := #[]
  methods := #[k1m0, k1m1, k1m2, k1m3, k1m4]
  instanceTypes := #[]
  staticTypes := #[]
  resolved := Array.replicate 40 none
  statics := none }

def pool2 : Array CpInfo := pool [(2, .class_ 4), (1, u "java/lang/Object"), (0, u "<init>"), (0, u "()V"), (1, .class_ 10), (1, u "com/example/orderly_ring/orderlyring/model/Sequences"), (0, u "extendBorders"), (0, u "([J[II)V")] 23

def k2m0 : Method := { name := "<init>", desc := "()V", sig := { parameters := [], returnType := none }, accessFlags := 2, code := none }
def k2c1 : Code := { maxStack := 4, maxLocals := 4, code := prog_60_method_3_code, exceptionTable := #[], attributes := #[] }
def k2m1 : Method := { name := "extendBorders", desc := "([J[II)V", sig := { parameters := [(.array .long), (.array .int), .int], returnType := none }, accessFlags := 8, code := some k2c1 }
/-- com/example/orderly_ring/orderlyring/model/Sequences -/
def k2 : Class := { plain "com/example/orderly_ring/orderlyring/model/Sequences" (some 0) with
  accessFlags := 48
  interfaces := #[]
  cf := some (fileOf pool2 8 #[] #[{ accessFlags := 2, nameIndex := 5, descriptorIndex := 6, attributes := #[] }, { accessFlags := 8, nameIndex := 11, descriptorIndex := 12, attributes := #[] }] 48 2 #[] #[])
  fields := #[]
  methods := #[k2m0, k2m1]
  instanceTypes := #[]
  staticTypes := #[]
  resolved := Array.replicate 36 none
  statics := none }

def pool3 : Array CpInfo := pool [(1, u "java/lang/Cloneable"), (0, .class_ 1), (0, u "java/lang/Object"), (0, .class_ 3)] 3

/-- java/lang/Cloneable -/
def k3 : Class := { plain "java/lang/Cloneable" (some 0) with
  accessFlags := 1537
  interfaces := #[]
  cf := some (fileOf pool3 2 #[] #[] 1537 4 #[] #[])
  fields := #[]
  methods := #[]
  instanceTypes := #[]
  staticTypes := #[]
  resolved := Array.replicate 8 none
  statics := none }

def pool4 : Array CpInfo := pool [(1, u "java/io/Serializable"), (0, .class_ 1), (0, u "java/lang/Object"), (0, .class_ 3)] 3

/-- java/io/Serializable -/
def k4 : Class := { plain "java/io/Serializable" (some 0) with
  accessFlags := 1537
  interfaces := #[]
  cf := some (fileOf pool4 2 #[] #[] 1537 4 #[] #[])
  fields := #[]
  methods := #[]
  instanceTypes := #[]
  staticTypes := #[]
  resolved := Array.replicate 8 none
  statics := none }

/-- the primitive byte -/
def k5 : Class := { plain "byte" none with kind := .primitive 'B', accessFlags := 0x411 }
/-- [B -/
def k6 : Class := { plain "[B" (some 0) with kind := .array 5 .byte, interfaces := #[3, 4], accessFlags := 1041 }

/-- the primitive int -/
def k7 : Class := { plain "int" none with kind := .primitive 'I', accessFlags := 0x411 }
/-- [I -/
def k8 : Class := { plain "[I" (some 0) with kind := .array 7 .int, interfaces := #[3, 4], accessFlags := 1041 }

/-- the primitive long -/
def k9 : Class := { plain "long" none with kind := .primitive 'J', accessFlags := 0x411 }
/-- [J -/
def k10 : Class := { plain "[J" (some 0) with kind := .array 9 .long, interfaces := #[3, 4], accessFlags := 1041 }

def heap : Heap := #[]
def classes : Array Class := #[k0, k1, k2, k3, k4, k5, k6, k7, k8, k9, k10]
def interned : List (Array UInt16 × Addr) := []
def slotsUsed : Nat := 0
def theMethod : MethodId := ⟨1, 4⟩
def args0 : Array Value := #[.long 5, .long 2, .long 3, .int 9]
def aboutOver (below : List Frame) : State where
  vm := { classes := classes, interned := interned.toArray }
  heap := heap
  slotsUsed := slotsUsed
  threads := #[{ frames := .invoking theMethod args0 :: below }]
def below0 : List Frame := [.native { method := ⟨0, 0⟩, args := #[] }]
def about1 : State := aboutOver below0
def p0 : Program := .bare "" "" ""
def e0 : Env := launch0.env 0 0 0
theorem w_frames : about1.frames = Frame.invoking theMethod args0 :: below0 := rfl
set_option maxRecDepth 65536 in
theorem w_args : argsFit about1.vm theMethod args0 = true := by decide +kernel
set_option maxRecDepth 65536 in
theorem w_heap : heapFits about1 = true := by decide +kernel
set_option maxRecDepth 65536 in
theorem w_runnable : about1.curStatus? = some .runnable := by decide +kernel
set_option maxRecDepth 65536 in
theorem w_alone : about1.alone = true := by decide +kernel
set_option maxRecDepth 65536 in
theorem w_named : about1.methodNamed? x = some theMethod := by decide +kernel
set_option maxRecDepth 65536 in
theorem w_hears : about1.hears theMethod below0 = true := by decide +kernel
set_option maxRecDepth 65536 in
theorem w_ripe : about1.ripe theMethod args0 below0 = true := by decide +kernel
theorem w_running : about1.status = .running := rfl
set_option maxRecDepth 65536 in
theorem w_room : about1.hasRoom e0.platform room_1 = true :=
  launch0.hasRoom_least _ room_1 (by decide +kernel) (by decide +kernel) (by decide +kernel) (by decide +kernel) (by decide +kernel) (by decide +kernel)
theorem allAtoms_all (ts : List Jvm.Cond) (a : Array Jvm.Value) (st : Jvm.State) : (allAtoms ts).before a st = ts.all (fun c => c.before a st) := by
  induction ts with
  | nil => rfl
  | cons c t ih =>
    show (Jvm.Cond.and c (allAtoms t)).before a st = _
    rw [Jvm.Cond.before_and, ih, List.all_cons]
def words1 : List Jvm.Cond := Jvm.Cond.code x code maxLocals ret :: tables_1
/-- a 'code' word, met by the world's own term for the bytes: nothing is compared byte by byte -/
theorem code_word {y : MethodName} {bytes : ByteArray} {mx : Nat} {rt : Option FieldType} {a : Array Value} {s : State} {m : MethodId} {meth : Method} {c : Code} (h1 : s.methodNamed? y = some m) (h2 : s.vm.method? m = some meth) (h3 : meth.code = some c) (h4 : c.code = bytes)
    (h5 : (c.maxLocals == mx && c.exceptionTable.isEmpty && decide (c.maxStack ≤ mostOperands) && decide (meth.sig.returnType = rt) && !meth.locks && decide (parseMethodDescriptor y.desc = some meth.sig)) = true) : (Jvm.Cond.code y bytes mx rt).before a s = true := by
  simp only [Bool.and_eq_true, beq_iff_eq, Bool.not_eq_true', decide_eq_true_eq] at h5
  obtain ⟨⟨⟨⟨⟨g1, g2⟩, g3⟩, g4⟩, g5⟩, g6⟩ := h5
  simp [Cond.before, Cond.holds, Cond.value, h1, h2, h3, h4, g1, g2, g3, g4, g5, g6]
def isCode : Jvm.Cond → Bool
  | .code _ _ _ _ => true
  | _ => false
theorem all_split {L : List Jvm.Cond} {P : Jvm.Cond → Bool} (h1 : L.all (fun c => isCode c || P c) = true) (h2 : ∀ c ∈ L.filter isCode, P c = true) : L.all P = true := by
  refine List.all_eq_true.mpr fun c hc => ?_
  have h := List.all_eq_true.mp h1 c hc
  rcases Bool.eq_false_or_eq_true (isCode c) with hi | hi
  · exact h2 c (List.mem_filter.mpr ⟨hc, hi⟩)
  · simpa [hi] using h
set_option maxRecDepth 65536 in
theorem w_c0 : (Jvm.Cond.code x code maxLocals ret).before args0 about1 = true := code_word (m := ⟨1, 4⟩) (meth := k1m4) (c := k1c4) (by decide +kernel) rfl rfl rfl (by decide +kernel)
set_option maxRecDepth 65536 in
theorem w_c1 : (Jvm.Cond.code ({ cls := "com/example/orderly_ring/orderlyring/model/SequencesExtendBordersPinLaw", name := "label", desc := "(IJJJ)J" } : Jvm.MethodName) method_2_code (7 : Nat) (Option.some Jvm.ClassFile.FieldType.long)).before args0 about1 = true := code_word (m := ⟨1, 1⟩) (meth := k1m1) (c := k1c1) (by decide +kernel) rfl rfl rfl (by decide +kernel)
set_option maxRecDepth 65536 in
theorem w_c2 : (Jvm.Cond.code ({ cls := "com/example/orderly_ring/orderlyring/model/Sequences", name := "extendBorders", desc := "([J[II)V" } : Jvm.MethodName) prog_60_method_3_code (4 : Nat) (Option.none : Option Jvm.ClassFile.FieldType)).before args0 about1 = true := code_word (m := ⟨2, 1⟩) (meth := k2m1) (c := k2c1) (by decide +kernel) rfl rfl rfl (by decide +kernel)
set_option maxRecDepth 65536 in
theorem w_c3 : (Jvm.Cond.code ({ cls := "com/example/orderly_ring/orderlyring/model/SequencesExtendBordersPinLaw", name := "border", desc := "([JI)I" } : Jvm.MethodName) method_4_code (2 : Nat) (Option.some Jvm.ClassFile.FieldType.int)).before args0 about1 = true := code_word (m := ⟨1, 3⟩) (meth := k1m3) (c := k1c3) (by decide +kernel) rfl rfl rfl (by decide +kernel)
set_option maxRecDepth 65536 in
theorem w_c4 : (Jvm.Cond.code ({ cls := "com/example/orderly_ring/orderlyring/model/SequencesExtendBordersPinLaw", name := "same", desc := "([JII)Z" } : Jvm.MethodName) method_3_code (5 : Nat) (Option.some Jvm.ClassFile.FieldType.boolean)).before args0 about1 = true := code_word (m := ⟨1, 2⟩) (meth := k1m2) (c := k1c2) (by decide +kernel) rfl rfl rfl (by decide +kernel)
def codes1 : List Jvm.Cond := [Jvm.Cond.code x code maxLocals ret, Jvm.Cond.code ({ cls := "com/example/orderly_ring/orderlyring/model/SequencesExtendBordersPinLaw", name := "label", desc := "(IJJJ)J" } : Jvm.MethodName) method_2_code (7 : Nat) (Option.some Jvm.ClassFile.FieldType.long), Jvm.Cond.code ({ cls := "com/example/orderly_ring/orderlyring/model/Sequences", name := "extendBorders", desc := "([J[II)V" } : Jvm.MethodName) prog_60_method_3_code (4 : Nat) (Option.none : Option Jvm.ClassFile.FieldType), Jvm.Cond.code ({ cls := "com/example/orderly_ring/orderlyring/model/SequencesExtendBordersPinLaw", name := "border", desc := "([JI)I" } : Jvm.MethodName) method_4_code (2 : Nat) (Option.some Jvm.ClassFile.FieldType.int), Jvm.Cond.code ({ cls := "com/example/orderly_ring/orderlyring/model/SequencesExtendBordersPinLaw", name := "same", desc := "([JII)Z" } : Jvm.MethodName) method_3_code (5 : Nat) (Option.some Jvm.ClassFile.FieldType.boolean)]
set_option maxRecDepth 65536 in
theorem codes_eq : words1.filter isCode = codes1 := rfl
theorem w_codes : ∀ c ∈ words1.filter isCode, c.before args0 about1 = true := by
  rw [codes_eq]
  intro c hc
  simp only [codes1, List.mem_cons, List.not_mem_nil, or_false] at hc
  rcases hc with rfl | rfl | rfl | rfl | rfl
  · exact w_c0
  · exact w_c1
  · exact w_c2
  · exact w_c3
  · exact w_c4
set_option maxRecDepth 65536 in
theorem w_t1 : words1.all (fun c => isCode c || c.before args0 about1) = true := by decide +kernel
theorem w_tables : (allAtoms (Jvm.Cond.code x code maxLocals ret :: tables_1)).before args0 about1 = true := by
  rw [allAtoms_all]
  show words1.all (fun c => c.before args0 about1) = true
  refine all_split ?_ w_codes
  rw [w_t1]
set_option maxRecDepth 65536 in
theorem w_case : (Jvm.Cond.and given_1 narrow_1).before args0 about1 = true := by decide +kernel
theorem w_applies : (headSpec (Jvm.Cond.code x code maxLocals ret :: tables_1) room_1).applies x e0.platform about1 = true :=
  (Spec.applies_iff w_frames).mpr ⟨w_running, w_runnable, w_alone, w_named, w_hears, w_ripe, w_room, w_tables⟩
theorem atStart : AtStart classFile x code maxLocals ret World_1 tables_1 room_1 Calls_1 rest_1 Pre_1 launch0 p0 e0 about1 theMethod args0 below0 :=
  ⟨lists_1, trivial, launch0.admits_env _ _ _, launch0.least_env, fairChoices_fair.cas, fairChoices_fair.clock, w_frames, w_args, w_heap, w_applies, trivial, trivial, w_case⟩
end start1
theorem witness_1 : WitnessClaimed_1 := ⟨start1.p0, start1.e0, start1.about1, start1.theMethod, start1.args0, start1.below0, start1.atStart⟩
end Jvm.Pilot.@@N@@
