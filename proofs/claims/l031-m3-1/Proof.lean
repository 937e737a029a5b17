import JvmDerived
import JvmDerived.Pilot.@@N@@Statement
import JvmDerived.Pilot.@@N@@Code
set_option linter.unusedVariables false
set_option linter.unusedSimpArgs false
namespace Jvm.Pilot.@@N@@
open Jvm Jvm.ClassFile Sem Op Lib Jvm.Free Jvm.Stand Jvm.LawKit Jvm.RoadKit Bundle Jvm.Pilot.@@N@@.Jvm.D
section OwnKit
variable {p : Program} {l : Launch} {e : Env} {R : Room} {s : State} {m : MethodId} {args : Array Value} {below : List Frame} {meth : Method} {c : Code} {T : State} {locs : List Loc} {cells slots : Nat}
variable {Q : Option Value → Heap → List Loc → Prop} {K N : Nat}
/-- from the state U the body comes to its end, and leaves what Q says -/
def own_G (p : Program) (e : Env) (below : List Frame) (s : State) (Q : Option Value → Heap → List Loc → Prop) (K N : Nat) (U : State) : Prop :=
  ∃ s₂ o, Steps p.tables e below U s₂ ∧ s₂.status = .running ∧ Ended s₂ below o ∧ ∃ v L, o = .returned v ∧ Q v s₂.heap L ∧ FrameEnd s o s₂ L K N
theorem own_go {U U' : State} (h : ∀ t, Steps p.tables e below U' t → Steps p.tables e below U t) (k : own_G p e below s Q K N U') : own_G p e below s Q K N U := by
  obtain ⟨s₂, o, h1, r⟩ := k
  exact ⟨s₂, o, h _ h1, r⟩
theorem own_end (X : Stand p l e R s m args below meth c T locs cells slots) {v : Option Value} (hv : meth.sig.returnType = none → v = none) (hlocks : meth.locks = false) {U : State}
    (st : ∀ fs, (∀ (f : JFrame) (acts : List Action), f.method = m → f.locked = none → f.entered = [] → (doReturn e (T.setTop f) acts v).1 = T.setFrames fs) → Steps p.tables e below U (T.setFrames fs))
    (hQ : Q v T.heap locs) (hK : cells ≤ K) (hN : slots ≤ N) : own_G p e below s Q K N U := by
  obtain ⟨fs, hr, hrun, hended, hW, hsame⟩ := X.leave hv hlocks
  exact ⟨_, _, st fs hr, hrun, hended, _, _, rfl, hQ, ⟨_, rfl⟩, hW, hsame.mono hK hN⟩
theorem own_retI (X : Stand p l e R s m args below meth c T locs cells slots) (hx : p.tables.exec = Jvm.exec) {pc : Nat} {Ls : Array Slot} {z : Int32} {rest : List Value} (hret : meth.sig.returnType = some .int) (hlocks : meth.locks = false) (hd : decode c.code pc = .ok (.ireturn, 1))
    {h : Heap} (eT : T.heap = h) (hQ : Q (some (.int z)) h locs) (hK : cells ≤ K) (hN : slots ≤ N) : own_G p e below s Q K N (T.setTop (mkF m pc Ls (.int z :: rest))) :=
  own_end X (fun h => by rw [hret] at h; cases h) hlocks (fun fs hr => retOut X hx hret rfl (Or.inl ⟨rfl, Or.inl rfl, _, rfl⟩) hd hr) (by rw [eT]; exact hQ) hK hN
theorem own_retJ (X : Stand p l e R s m args below meth c T locs cells slots) (hx : p.tables.exec = Jvm.exec) {pc : Nat} {Ls : Array Slot} {z : Int64} {rest : List Value} (hret : meth.sig.returnType = some .long) (hlocks : meth.locks = false) (hd : decode c.code pc = .ok (.lreturn, 1))
    {h : Heap} (eT : T.heap = h) (hQ : Q (some (.long z)) h locs) (hK : cells ≤ K) (hN : slots ≤ N) : own_G p e below s Q K N (T.setTop (mkF m pc Ls (.long z :: rest))) :=
  own_end X (fun h => by rw [hret] at h; cases h) hlocks (fun fs hr => retOut X hx hret rfl (Or.inr (Or.inl ⟨rfl, rfl, _, rfl⟩)) hd hr) (by rw [eT]; exact hQ) hK hN
theorem own_retD (X : Stand p l e R s m args below meth c T locs cells slots) (hx : p.tables.exec = Jvm.exec) {pc : Nat} {Ls : Array Slot} {z : UInt64} {rest : List Value} (hret : meth.sig.returnType = some .double) (hlocks : meth.locks = false) (hd : decode c.code pc = .ok (.dreturn, 1))
    {h : Heap} (eT : T.heap = h) (hQ : Q (some (.double z)) h locs) (hK : cells ≤ K) (hN : slots ≤ N) : own_G p e below s Q K N (T.setTop (mkF m pc Ls (.double z :: rest))) :=
  own_end X (fun h => by rw [hret] at h; cases h) hlocks (fun fs hr => retOut X hx hret rfl (Or.inr (Or.inr (Or.inl ⟨rfl, rfl, _, rfl⟩))) hd hr) (by rw [eT]; exact hQ) hK hN
theorem own_retA {t : FieldType} (ht : t.isReference = true) {w : Value} (hv : w.isRef = true) (X : Stand p l e R s m args below meth c T locs cells slots) (hx : p.tables.exec = Jvm.exec) {pc : Nat} {Ls : Array Slot} {rest : List Value} (hret : meth.sig.returnType = some t) (hlocks : meth.locks = false) (hd : decode c.code pc = .ok (.areturn, 1))
    {h : Heap} (eT : T.heap = h) (hQ : Q (some w) h locs) (hK : cells ≤ K) (hN : slots ≤ N) : own_G p e below s Q K N (T.setTop (mkF m pc Ls (w :: rest))) :=
  own_end X (fun h => by rw [hret] at h; cases h) hlocks (fun fs hr => retOut X hx hret (by cases t <;> first | rfl | (cases ht)) (Or.inr (Or.inr (Or.inr (Or.inr ⟨rfl, ht, hv⟩)))) hd hr) (by rw [eT]; exact hQ) hK hN
theorem own_retN {t : FieldType} (ht : t = .boolean ∨ t = .byte ∨ t = .char ∨ t = .short) (X : Stand p l e R s m args below meth c T locs cells slots) (hx : p.tables.exec = Jvm.exec) {pc : Nat} {Ls : Array Slot} {z : Int32} {rest : List Value} (hret : meth.sig.returnType = some t) (hlocks : meth.locks = false) (hd : decode c.code pc = .ok (.ireturn, 1))
    {h : Heap} (eT : T.heap = h) (hQ : Q (some (.int (nar t z))) h locs) (hK : cells ≤ K) (hN : slots ≤ N) : own_G p e below s Q K N (T.setTop (mkF m pc Ls (.int z :: rest))) :=
  own_end X (fun h => by rw [hret] at h; cases h) hlocks (fun fs hr => retN X hx hret ht hd hr) (by rw [eT]; exact hQ) hK hN
theorem own_ret0 (X : Stand p l e R s m args below meth c T locs cells slots) (hx : p.tables.exec = Jvm.exec) {pc : Nat} {Ls : Array Slot} (hret : meth.sig.returnType = none) (hlocks : meth.locks = false) (hd : decode c.code pc = .ok (.return_, 1))
    {h : Heap} (eT : T.heap = h) (hQ : Q none h locs) (hK : cells ≤ K) (hN : slots ≤ N) : own_G p e below s Q K N (T.setTop (mkF m pc Ls [])) :=
  own_end X (fun _ => rfl) hlocks (fun fs hr => X.returnOut hx hret hd hr) (by rw [eT]; exact hQ) hK hN
theorem own_lrem (X : Stand p l e R s m args below meth c T locs cells slots) (hx : p.tables.exec = Jvm.exec) {g : JFrame} {target : State} (hg : g.method = m) {x y : Int64} {rest : List Value} (hd : decode c.code g.pc = .ok (.lrem, 1)) (hs : g.stack = .long y :: .long x :: rest) (hy : y ≠ 0)
    (hr : Steps p.tables e below (T.setTop { g with pc := g.pc + 1, stack := .long (x % y) :: rest }) target) : Steps p.tables e below (T.setTop g) target :=
  XS.lrem X.here hx hg hd hs hy (by rw [lrem_mod]; exact hr)
theorem own_ic_ltY (X : Stand p l e R s m args below meth c T locs cells slots) (hx : p.tables.exec = Jvm.exec) {pc pc' : Nat} {Ls : Array Slot} {rest : List Value} {o : Int} {x y : Int32} (hd : decode c.code pc = .ok (.if_icmp .lt o, 3)) (ho : 0 ≤ (pc : Int) + o) (hp : ((pc : Int) + o).toNat = pc') (h : x < y) (k : own_G p e below s Q K N (T.setTop (mkF m pc' Ls rest))) : own_G p e below s Q K N (T.setTop (mkF m pc Ls (.int y :: .int x :: rest))) :=
  own_go (fun _ k => XS.icmpYes X.here hx rfl (pc0 := pc) (pc' := pc') rfl hd rfl (tlt h).1 ho hp k) k
theorem own_ic_ltN (X : Stand p l e R s m args below meth c T locs cells slots) (hx : p.tables.exec = Jvm.exec) {pc : Nat} {Ls : Array Slot} {rest : List Value} {o : Int} {x y : Int32} (hd : decode c.code pc = .ok (.if_icmp .lt o, 3)) (h : ¬ (x < y)) (k : own_G p e below s Q K N (T.setTop (mkF m (pc + 3) Ls rest))) : own_G p e below s Q K N (T.setTop (mkF m pc Ls (.int y :: .int x :: rest))) :=
  own_go (fun _ k => XS.icmpNo X.here hx rfl hd rfl (flt h).1 k) k
theorem own_ic_lt (X : Stand p l e R s m args below meth c T locs cells slots) (hx : p.tables.exec = Jvm.exec) {pc pc' : Nat} {Ls : Array Slot} {rest : List Value} {o : Int} {x y : Int32} (hd : decode c.code pc = .ok (.if_icmp .lt o, 3)) (ho : 0 ≤ (pc : Int) + o) (hp : ((pc : Int) + o).toNat = pc') (ky : x < y → own_G p e below s Q K N (T.setTop (mkF m pc' Ls rest))) (kn : ¬ (x < y) → own_G p e below s Q K N (T.setTop (mkF m (pc + 3) Ls rest))) : own_G p e below s Q K N (T.setTop (mkF m pc Ls (.int y :: .int x :: rest))) := by
  by_cases h : x < y
  · exact own_ic_ltY X hx hd ho hp h (ky h)
  · exact own_ic_ltN X hx hd h (kn h)
theorem own_if_ltY (X : Stand p l e R s m args below meth c T locs cells slots) (hx : p.tables.exec = Jvm.exec) {pc pc' : Nat} {Ls : Array Slot} {rest : List Value} {o : Int} {x : Int32} (hd : decode c.code pc = .ok (.ifCond .lt o, 3)) (ho : 0 ≤ (pc : Int) + o) (hp : ((pc : Int) + o).toNat = pc') (h : x < 0) (k : own_G p e below s Q K N (T.setTop (mkF m pc' Ls rest))) : own_G p e below s Q K N (T.setTop (mkF m pc Ls (.int x :: rest))) :=
  own_go (fun _ k => XS.ifYes X.here hx rfl (pc0 := pc) (pc' := pc') rfl hd rfl ((if0 _ _).trans (tlt h).1) ho hp k) k
theorem own_if_ltN (X : Stand p l e R s m args below meth c T locs cells slots) (hx : p.tables.exec = Jvm.exec) {pc : Nat} {Ls : Array Slot} {rest : List Value} {o : Int} {x : Int32} (hd : decode c.code pc = .ok (.ifCond .lt o, 3)) (h : ¬ (x < 0)) (k : own_G p e below s Q K N (T.setTop (mkF m (pc + 3) Ls rest))) : own_G p e below s Q K N (T.setTop (mkF m pc Ls (.int x :: rest))) :=
  own_go (fun _ k => XS.ifNo X.here hx rfl hd rfl ((if0 _ _).trans (flt h).1) k) k
theorem own_if_lt (X : Stand p l e R s m args below meth c T locs cells slots) (hx : p.tables.exec = Jvm.exec) {pc pc' : Nat} {Ls : Array Slot} {rest : List Value} {o : Int} {x : Int32} (hd : decode c.code pc = .ok (.ifCond .lt o, 3)) (ho : 0 ≤ (pc : Int) + o) (hp : ((pc : Int) + o).toNat = pc') (ky : x < 0 → own_G p e below s Q K N (T.setTop (mkF m pc' Ls rest))) (kn : ¬ (x < 0) → own_G p e below s Q K N (T.setTop (mkF m (pc + 3) Ls rest))) : own_G p e below s Q K N (T.setTop (mkF m pc Ls (.int x :: rest))) := by
  by_cases h : x < 0
  · exact own_if_ltY X hx hd ho hp h (ky h)
  · exact own_if_ltN X hx hd h (kn h)
theorem own_ic_geY (X : Stand p l e R s m args below meth c T locs cells slots) (hx : p.tables.exec = Jvm.exec) {pc pc' : Nat} {Ls : Array Slot} {rest : List Value} {o : Int} {x y : Int32} (hd : decode c.code pc = .ok (.if_icmp .ge o, 3)) (ho : 0 ≤ (pc : Int) + o) (hp : ((pc : Int) + o).toNat = pc') (h : ¬ (x < y)) (k : own_G p e below s Q K N (T.setTop (mkF m pc' Ls rest))) : own_G p e below s Q K N (T.setTop (mkF m pc Ls (.int y :: .int x :: rest))) :=
  own_go (fun _ k => XS.icmpYes X.here hx rfl (pc0 := pc) (pc' := pc') rfl hd rfl (flt h).2.1 ho hp k) k
theorem own_ic_geN (X : Stand p l e R s m args below meth c T locs cells slots) (hx : p.tables.exec = Jvm.exec) {pc : Nat} {Ls : Array Slot} {rest : List Value} {o : Int} {x y : Int32} (hd : decode c.code pc = .ok (.if_icmp .ge o, 3)) (h : x < y) (k : own_G p e below s Q K N (T.setTop (mkF m (pc + 3) Ls rest))) : own_G p e below s Q K N (T.setTop (mkF m pc Ls (.int y :: .int x :: rest))) :=
  own_go (fun _ k => XS.icmpNo X.here hx rfl hd rfl (tlt h).2.1 k) k
theorem own_ic_ge (X : Stand p l e R s m args below meth c T locs cells slots) (hx : p.tables.exec = Jvm.exec) {pc pc' : Nat} {Ls : Array Slot} {rest : List Value} {o : Int} {x y : Int32} (hd : decode c.code pc = .ok (.if_icmp .ge o, 3)) (ho : 0 ≤ (pc : Int) + o) (hp : ((pc : Int) + o).toNat = pc') (ky : ¬ (x < y) → own_G p e below s Q K N (T.setTop (mkF m pc' Ls rest))) (kn : x < y → own_G p e below s Q K N (T.setTop (mkF m (pc + 3) Ls rest))) : own_G p e below s Q K N (T.setTop (mkF m pc Ls (.int y :: .int x :: rest))) := by
  by_cases h : x < y
  · exact own_ic_geN X hx hd h (kn h)
  · exact own_ic_geY X hx hd ho hp h (ky h)
theorem own_if_geY (X : Stand p l e R s m args below meth c T locs cells slots) (hx : p.tables.exec = Jvm.exec) {pc pc' : Nat} {Ls : Array Slot} {rest : List Value} {o : Int} {x : Int32} (hd : decode c.code pc = .ok (.ifCond .ge o, 3)) (ho : 0 ≤ (pc : Int) + o) (hp : ((pc : Int) + o).toNat = pc') (h : ¬ (x < 0)) (k : own_G p e below s Q K N (T.setTop (mkF m pc' Ls rest))) : own_G p e below s Q K N (T.setTop (mkF m pc Ls (.int x :: rest))) :=
  own_go (fun _ k => XS.ifYes X.here hx rfl (pc0 := pc) (pc' := pc') rfl hd rfl ((if0 _ _).trans (flt h).2.1) ho hp k) k
theorem own_if_geN (X : Stand p l e R s m args below meth c T locs cells slots) (hx : p.tables.exec = Jvm.exec) {pc : Nat} {Ls : Array Slot} {rest : List Value} {o : Int} {x : Int32} (hd : decode c.code pc = .ok (.ifCond .ge o, 3)) (h : x < 0) (k : own_G p e below s Q K N (T.setTop (mkF m (pc + 3) Ls rest))) : own_G p e below s Q K N (T.setTop (mkF m pc Ls (.int x :: rest))) :=
  own_go (fun _ k => XS.ifNo X.here hx rfl hd rfl ((if0 _ _).trans (tlt h).2.1) k) k
theorem own_if_ge (X : Stand p l e R s m args below meth c T locs cells slots) (hx : p.tables.exec = Jvm.exec) {pc pc' : Nat} {Ls : Array Slot} {rest : List Value} {o : Int} {x : Int32} (hd : decode c.code pc = .ok (.ifCond .ge o, 3)) (ho : 0 ≤ (pc : Int) + o) (hp : ((pc : Int) + o).toNat = pc') (ky : ¬ (x < 0) → own_G p e below s Q K N (T.setTop (mkF m pc' Ls rest))) (kn : x < 0 → own_G p e below s Q K N (T.setTop (mkF m (pc + 3) Ls rest))) : own_G p e below s Q K N (T.setTop (mkF m pc Ls (.int x :: rest))) := by
  by_cases h : x < 0
  · exact own_if_geN X hx hd h (kn h)
  · exact own_if_geY X hx hd ho hp h (ky h)
theorem own_ic_gtY (X : Stand p l e R s m args below meth c T locs cells slots) (hx : p.tables.exec = Jvm.exec) {pc pc' : Nat} {Ls : Array Slot} {rest : List Value} {o : Int} {x y : Int32} (hd : decode c.code pc = .ok (.if_icmp .gt o, 3)) (ho : 0 ≤ (pc : Int) + o) (hp : ((pc : Int) + o).toNat = pc') (h : y < x) (k : own_G p e below s Q K N (T.setTop (mkF m pc' Ls rest))) : own_G p e below s Q K N (T.setTop (mkF m pc Ls (.int y :: .int x :: rest))) :=
  own_go (fun _ k => XS.icmpYes X.here hx rfl (pc0 := pc) (pc' := pc') rfl hd rfl (tlt h).2.2.1 ho hp k) k
theorem own_ic_gtN (X : Stand p l e R s m args below meth c T locs cells slots) (hx : p.tables.exec = Jvm.exec) {pc : Nat} {Ls : Array Slot} {rest : List Value} {o : Int} {x y : Int32} (hd : decode c.code pc = .ok (.if_icmp .gt o, 3)) (h : ¬ (y < x)) (k : own_G p e below s Q K N (T.setTop (mkF m (pc + 3) Ls rest))) : own_G p e below s Q K N (T.setTop (mkF m pc Ls (.int y :: .int x :: rest))) :=
  own_go (fun _ k => XS.icmpNo X.here hx rfl hd rfl (flt h).2.2.1 k) k
theorem own_ic_gt (X : Stand p l e R s m args below meth c T locs cells slots) (hx : p.tables.exec = Jvm.exec) {pc pc' : Nat} {Ls : Array Slot} {rest : List Value} {o : Int} {x y : Int32} (hd : decode c.code pc = .ok (.if_icmp .gt o, 3)) (ho : 0 ≤ (pc : Int) + o) (hp : ((pc : Int) + o).toNat = pc') (ky : y < x → own_G p e below s Q K N (T.setTop (mkF m pc' Ls rest))) (kn : ¬ (y < x) → own_G p e below s Q K N (T.setTop (mkF m (pc + 3) Ls rest))) : own_G p e below s Q K N (T.setTop (mkF m pc Ls (.int y :: .int x :: rest))) := by
  by_cases h : y < x
  · exact own_ic_gtY X hx hd ho hp h (ky h)
  · exact own_ic_gtN X hx hd h (kn h)
theorem own_if_gtY (X : Stand p l e R s m args below meth c T locs cells slots) (hx : p.tables.exec = Jvm.exec) {pc pc' : Nat} {Ls : Array Slot} {rest : List Value} {o : Int} {x : Int32} (hd : decode c.code pc = .ok (.ifCond .gt o, 3)) (ho : 0 ≤ (pc : Int) + o) (hp : ((pc : Int) + o).toNat = pc') (h : 0 < x) (k : own_G p e below s Q K N (T.setTop (mkF m pc' Ls rest))) : own_G p e below s Q K N (T.setTop (mkF m pc Ls (.int x :: rest))) :=
  own_go (fun _ k => XS.ifYes X.here hx rfl (pc0 := pc) (pc' := pc') rfl hd rfl ((if0 _ _).trans (tlt h).2.2.1) ho hp k) k
theorem own_if_gtN (X : Stand p l e R s m args below meth c T locs cells slots) (hx : p.tables.exec = Jvm.exec) {pc : Nat} {Ls : Array Slot} {rest : List Value} {o : Int} {x : Int32} (hd : decode c.code pc = .ok (.ifCond .gt o, 3)) (h : ¬ (0 < x)) (k : own_G p e below s Q K N (T.setTop (mkF m (pc + 3) Ls rest))) : own_G p e below s Q K N (T.setTop (mkF m pc Ls (.int x :: rest))) :=
  own_go (fun _ k => XS.ifNo X.here hx rfl hd rfl ((if0 _ _).trans (flt h).2.2.1) k) k
theorem own_if_gt (X : Stand p l e R s m args below meth c T locs cells slots) (hx : p.tables.exec = Jvm.exec) {pc pc' : Nat} {Ls : Array Slot} {rest : List Value} {o : Int} {x : Int32} (hd : decode c.code pc = .ok (.ifCond .gt o, 3)) (ho : 0 ≤ (pc : Int) + o) (hp : ((pc : Int) + o).toNat = pc') (ky : 0 < x → own_G p e below s Q K N (T.setTop (mkF m pc' Ls rest))) (kn : ¬ (0 < x) → own_G p e below s Q K N (T.setTop (mkF m (pc + 3) Ls rest))) : own_G p e below s Q K N (T.setTop (mkF m pc Ls (.int x :: rest))) := by
  by_cases h : 0 < x
  · exact own_if_gtY X hx hd ho hp h (ky h)
  · exact own_if_gtN X hx hd h (kn h)
theorem own_ic_leY (X : Stand p l e R s m args below meth c T locs cells slots) (hx : p.tables.exec = Jvm.exec) {pc pc' : Nat} {Ls : Array Slot} {rest : List Value} {o : Int} {x y : Int32} (hd : decode c.code pc = .ok (.if_icmp .le o, 3)) (ho : 0 ≤ (pc : Int) + o) (hp : ((pc : Int) + o).toNat = pc') (h : ¬ (y < x)) (k : own_G p e below s Q K N (T.setTop (mkF m pc' Ls rest))) : own_G p e below s Q K N (T.setTop (mkF m pc Ls (.int y :: .int x :: rest))) :=
  own_go (fun _ k => XS.icmpYes X.here hx rfl (pc0 := pc) (pc' := pc') rfl hd rfl (flt h).2.2.2 ho hp k) k
theorem own_ic_leN (X : Stand p l e R s m args below meth c T locs cells slots) (hx : p.tables.exec = Jvm.exec) {pc : Nat} {Ls : Array Slot} {rest : List Value} {o : Int} {x y : Int32} (hd : decode c.code pc = .ok (.if_icmp .le o, 3)) (h : y < x) (k : own_G p e below s Q K N (T.setTop (mkF m (pc + 3) Ls rest))) : own_G p e below s Q K N (T.setTop (mkF m pc Ls (.int y :: .int x :: rest))) :=
  own_go (fun _ k => XS.icmpNo X.here hx rfl hd rfl (tlt h).2.2.2 k) k
theorem own_ic_le (X : Stand p l e R s m args below meth c T locs cells slots) (hx : p.tables.exec = Jvm.exec) {pc pc' : Nat} {Ls : Array Slot} {rest : List Value} {o : Int} {x y : Int32} (hd : decode c.code pc = .ok (.if_icmp .le o, 3)) (ho : 0 ≤ (pc : Int) + o) (hp : ((pc : Int) + o).toNat = pc') (ky : ¬ (y < x) → own_G p e below s Q K N (T.setTop (mkF m pc' Ls rest))) (kn : y < x → own_G p e below s Q K N (T.setTop (mkF m (pc + 3) Ls rest))) : own_G p e below s Q K N (T.setTop (mkF m pc Ls (.int y :: .int x :: rest))) := by
  by_cases h : y < x
  · exact own_ic_leN X hx hd h (kn h)
  · exact own_ic_leY X hx hd ho hp h (ky h)
theorem own_if_leY (X : Stand p l e R s m args below meth c T locs cells slots) (hx : p.tables.exec = Jvm.exec) {pc pc' : Nat} {Ls : Array Slot} {rest : List Value} {o : Int} {x : Int32} (hd : decode c.code pc = .ok (.ifCond .le o, 3)) (ho : 0 ≤ (pc : Int) + o) (hp : ((pc : Int) + o).toNat = pc') (h : ¬ (0 < x)) (k : own_G p e below s Q K N (T.setTop (mkF m pc' Ls rest))) : own_G p e below s Q K N (T.setTop (mkF m pc Ls (.int x :: rest))) :=
  own_go (fun _ k => XS.ifYes X.here hx rfl (pc0 := pc) (pc' := pc') rfl hd rfl ((if0 _ _).trans (flt h).2.2.2) ho hp k) k
theorem own_if_leN (X : Stand p l e R s m args below meth c T locs cells slots) (hx : p.tables.exec = Jvm.exec) {pc : Nat} {Ls : Array Slot} {rest : List Value} {o : Int} {x : Int32} (hd : decode c.code pc = .ok (.ifCond .le o, 3)) (h : 0 < x) (k : own_G p e below s Q K N (T.setTop (mkF m (pc + 3) Ls rest))) : own_G p e below s Q K N (T.setTop (mkF m pc Ls (.int x :: rest))) :=
  own_go (fun _ k => XS.ifNo X.here hx rfl hd rfl ((if0 _ _).trans (tlt h).2.2.2) k) k
theorem own_if_le (X : Stand p l e R s m args below meth c T locs cells slots) (hx : p.tables.exec = Jvm.exec) {pc pc' : Nat} {Ls : Array Slot} {rest : List Value} {o : Int} {x : Int32} (hd : decode c.code pc = .ok (.ifCond .le o, 3)) (ho : 0 ≤ (pc : Int) + o) (hp : ((pc : Int) + o).toNat = pc') (ky : ¬ (0 < x) → own_G p e below s Q K N (T.setTop (mkF m pc' Ls rest))) (kn : 0 < x → own_G p e below s Q K N (T.setTop (mkF m (pc + 3) Ls rest))) : own_G p e below s Q K N (T.setTop (mkF m pc Ls (.int x :: rest))) := by
  by_cases h : 0 < x
  · exact own_if_leN X hx hd h (kn h)
  · exact own_if_leY X hx hd ho hp h (ky h)
theorem own_ic_eqY (X : Stand p l e R s m args below meth c T locs cells slots) (hx : p.tables.exec = Jvm.exec) {pc pc' : Nat} {Ls : Array Slot} {rest : List Value} {o : Int} {x y : Int32} (hd : decode c.code pc = .ok (.if_icmp .eq o, 3)) (ho : 0 ≤ (pc : Int) + o) (hp : ((pc : Int) + o).toNat = pc') (h : x = y) (k : own_G p e below s Q K N (T.setTop (mkF m pc' Ls rest))) : own_G p e below s Q K N (T.setTop (mkF m pc Ls (.int y :: .int x :: rest))) :=
  own_go (fun _ k => XS.icmpYes X.here hx rfl (pc0 := pc) (pc' := pc') rfl hd rfl (teq h).1 ho hp k) k
theorem own_ic_eqN (X : Stand p l e R s m args below meth c T locs cells slots) (hx : p.tables.exec = Jvm.exec) {pc : Nat} {Ls : Array Slot} {rest : List Value} {o : Int} {x y : Int32} (hd : decode c.code pc = .ok (.if_icmp .eq o, 3)) (h : ¬ (x = y)) (k : own_G p e below s Q K N (T.setTop (mkF m (pc + 3) Ls rest))) : own_G p e below s Q K N (T.setTop (mkF m pc Ls (.int y :: .int x :: rest))) :=
  own_go (fun _ k => XS.icmpNo X.here hx rfl hd rfl (feq h).1 k) k
theorem own_ic_eq (X : Stand p l e R s m args below meth c T locs cells slots) (hx : p.tables.exec = Jvm.exec) {pc pc' : Nat} {Ls : Array Slot} {rest : List Value} {o : Int} {x y : Int32} (hd : decode c.code pc = .ok (.if_icmp .eq o, 3)) (ho : 0 ≤ (pc : Int) + o) (hp : ((pc : Int) + o).toNat = pc') (ky : x = y → own_G p e below s Q K N (T.setTop (mkF m pc' Ls rest))) (kn : ¬ (x = y) → own_G p e below s Q K N (T.setTop (mkF m (pc + 3) Ls rest))) : own_G p e below s Q K N (T.setTop (mkF m pc Ls (.int y :: .int x :: rest))) := by
  by_cases h : x = y
  · exact own_ic_eqY X hx hd ho hp h (ky h)
  · exact own_ic_eqN X hx hd h (kn h)
theorem own_if_eqY (X : Stand p l e R s m args below meth c T locs cells slots) (hx : p.tables.exec = Jvm.exec) {pc pc' : Nat} {Ls : Array Slot} {rest : List Value} {o : Int} {x : Int32} (hd : decode c.code pc = .ok (.ifCond .eq o, 3)) (ho : 0 ≤ (pc : Int) + o) (hp : ((pc : Int) + o).toNat = pc') (h : x = 0) (k : own_G p e below s Q K N (T.setTop (mkF m pc' Ls rest))) : own_G p e below s Q K N (T.setTop (mkF m pc Ls (.int x :: rest))) :=
  own_go (fun _ k => XS.ifYes X.here hx rfl (pc0 := pc) (pc' := pc') rfl hd rfl ((if0 _ _).trans (teq h).1) ho hp k) k
theorem own_if_eqN (X : Stand p l e R s m args below meth c T locs cells slots) (hx : p.tables.exec = Jvm.exec) {pc : Nat} {Ls : Array Slot} {rest : List Value} {o : Int} {x : Int32} (hd : decode c.code pc = .ok (.ifCond .eq o, 3)) (h : ¬ (x = 0)) (k : own_G p e below s Q K N (T.setTop (mkF m (pc + 3) Ls rest))) : own_G p e below s Q K N (T.setTop (mkF m pc Ls (.int x :: rest))) :=
  own_go (fun _ k => XS.ifNo X.here hx rfl hd rfl ((if0 _ _).trans (feq h).1) k) k
theorem own_if_eq (X : Stand p l e R s m args below meth c T locs cells slots) (hx : p.tables.exec = Jvm.exec) {pc pc' : Nat} {Ls : Array Slot} {rest : List Value} {o : Int} {x : Int32} (hd : decode c.code pc = .ok (.ifCond .eq o, 3)) (ho : 0 ≤ (pc : Int) + o) (hp : ((pc : Int) + o).toNat = pc') (ky : x = 0 → own_G p e below s Q K N (T.setTop (mkF m pc' Ls rest))) (kn : ¬ (x = 0) → own_G p e below s Q K N (T.setTop (mkF m (pc + 3) Ls rest))) : own_G p e below s Q K N (T.setTop (mkF m pc Ls (.int x :: rest))) := by
  by_cases h : x = 0
  · exact own_if_eqY X hx hd ho hp h (ky h)
  · exact own_if_eqN X hx hd h (kn h)
theorem own_ic_neY (X : Stand p l e R s m args below meth c T locs cells slots) (hx : p.tables.exec = Jvm.exec) {pc pc' : Nat} {Ls : Array Slot} {rest : List Value} {o : Int} {x y : Int32} (hd : decode c.code pc = .ok (.if_icmp .ne o, 3)) (ho : 0 ≤ (pc : Int) + o) (hp : ((pc : Int) + o).toNat = pc') (h : ¬ (x = y)) (k : own_G p e below s Q K N (T.setTop (mkF m pc' Ls rest))) : own_G p e below s Q K N (T.setTop (mkF m pc Ls (.int y :: .int x :: rest))) :=
  own_go (fun _ k => XS.icmpYes X.here hx rfl (pc0 := pc) (pc' := pc') rfl hd rfl (feq h).2 ho hp k) k
theorem own_ic_neN (X : Stand p l e R s m args below meth c T locs cells slots) (hx : p.tables.exec = Jvm.exec) {pc : Nat} {Ls : Array Slot} {rest : List Value} {o : Int} {x y : Int32} (hd : decode c.code pc = .ok (.if_icmp .ne o, 3)) (h : x = y) (k : own_G p e below s Q K N (T.setTop (mkF m (pc + 3) Ls rest))) : own_G p e below s Q K N (T.setTop (mkF m pc Ls (.int y :: .int x :: rest))) :=
  own_go (fun _ k => XS.icmpNo X.here hx rfl hd rfl (teq h).2 k) k
theorem own_ic_ne (X : Stand p l e R s m args below meth c T locs cells slots) (hx : p.tables.exec = Jvm.exec) {pc pc' : Nat} {Ls : Array Slot} {rest : List Value} {o : Int} {x y : Int32} (hd : decode c.code pc = .ok (.if_icmp .ne o, 3)) (ho : 0 ≤ (pc : Int) + o) (hp : ((pc : Int) + o).toNat = pc') (ky : ¬ (x = y) → own_G p e below s Q K N (T.setTop (mkF m pc' Ls rest))) (kn : x = y → own_G p e below s Q K N (T.setTop (mkF m (pc + 3) Ls rest))) : own_G p e below s Q K N (T.setTop (mkF m pc Ls (.int y :: .int x :: rest))) := by
  by_cases h : x = y
  · exact own_ic_neN X hx hd h (kn h)
  · exact own_ic_neY X hx hd ho hp h (ky h)
theorem own_if_neY (X : Stand p l e R s m args below meth c T locs cells slots) (hx : p.tables.exec = Jvm.exec) {pc pc' : Nat} {Ls : Array Slot} {rest : List Value} {o : Int} {x : Int32} (hd : decode c.code pc = .ok (.ifCond .ne o, 3)) (ho : 0 ≤ (pc : Int) + o) (hp : ((pc : Int) + o).toNat = pc') (h : ¬ (x = 0)) (k : own_G p e below s Q K N (T.setTop (mkF m pc' Ls rest))) : own_G p e below s Q K N (T.setTop (mkF m pc Ls (.int x :: rest))) :=
  own_go (fun _ k => XS.ifYes X.here hx rfl (pc0 := pc) (pc' := pc') rfl hd rfl ((if0 _ _).trans (feq h).2) ho hp k) k
theorem own_if_neN (X : Stand p l e R s m args below meth c T locs cells slots) (hx : p.tables.exec = Jvm.exec) {pc : Nat} {Ls : Array Slot} {rest : List Value} {o : Int} {x : Int32} (hd : decode c.code pc = .ok (.ifCond .ne o, 3)) (h : x = 0) (k : own_G p e below s Q K N (T.setTop (mkF m (pc + 3) Ls rest))) : own_G p e below s Q K N (T.setTop (mkF m pc Ls (.int x :: rest))) :=
  own_go (fun _ k => XS.ifNo X.here hx rfl hd rfl ((if0 _ _).trans (teq h).2) k) k
theorem own_if_ne (X : Stand p l e R s m args below meth c T locs cells slots) (hx : p.tables.exec = Jvm.exec) {pc pc' : Nat} {Ls : Array Slot} {rest : List Value} {o : Int} {x : Int32} (hd : decode c.code pc = .ok (.ifCond .ne o, 3)) (ho : 0 ≤ (pc : Int) + o) (hp : ((pc : Int) + o).toNat = pc') (ky : ¬ (x = 0) → own_G p e below s Q K N (T.setTop (mkF m pc' Ls rest))) (kn : x = 0 → own_G p e below s Q K N (T.setTop (mkF m (pc + 3) Ls rest))) : own_G p e below s Q K N (T.setTop (mkF m pc Ls (.int x :: rest))) := by
  by_cases h : x = 0
  · exact own_if_neN X hx hd h (kn h)
  · exact own_if_neY X hx hd ho hp h (ky h)
theorem own_nar1 : nar .boolean (1 : Int32) = 1 := rfl
theorem own_nar0 : nar .boolean (0 : Int32) = 0 := rfl
theorem own_mask (x : Int32) (k : Nat) (hk : k < 2147483648) : ∃ n : Nat, n ≤ k ∧ (x &&& Int32.ofNat k) = Int32.ofNat n := by
  refine ⟨(x &&& Int32.ofNat k).toBitVec.toNat, ?_, ?_⟩
  · have h : (Int32.ofNat k).toBitVec.toNat = k := by
      show (BitVec.ofNat 32 k).toNat = k
      rw [BitVec.toNat_ofNat]; omega
    simp only [Int32.toBitVec_and, BitVec.toNat_and, h]
    exact Nat.and_le_right
  · apply Int32.toBitVec_inj.mp
    show _ = BitVec.ofNat 32 _
    rw [BitVec.ofNat_toNat]; simp
end OwnKit
def own_min (x y : Int32) : Int32 := if y < x then y else x
def own_max (x y : Int32) : Int32 := if x < y then y else x
theorem own_tri (x y : Int32) : x < y ∨ x = y ∨ y < x := by
  rw [Int32.lt_iff_toInt_lt, Int32.lt_iff_toInt_lt, ← Int32.toInt_inj]
  omega
theorem own_asym {x y : Int32} (h : x < y) : ¬ y < x := by rw [Int32.lt_iff_toInt_lt] at *; omega
theorem own_irr (x : Int32) : ¬ x < x := by rw [Int32.lt_iff_toInt_lt]; omega
theorem own_ne {x y : Int32} (h : x < y) : ¬ x = y := fun q => own_irr y (q ▸ h)
theorem own_ne' {x y : Int32} (h : x < y) : ¬ y = x := fun q => own_irr y (q ▸ h)
theorem own_tr {x y z : Int32} (h : x < y) (g : y < z) : x < z := by rw [Int32.lt_iff_toInt_lt] at *; omega
theorem own_nmax (x : Int32) : ¬ (2147483647 : Int32) < x := by
  rw [Int32.lt_iff_toInt_lt]; have := (rng32 x).2; have : (2147483647 : Int32).toInt = 2147483647 := by decide
  omega
theorem own_min_l {x y : Int32} (h : x < y) : own_min x y = x := if_neg (own_asym h)
theorem own_min_e {x y : Int32} (h : x = y) : own_min x y = x := if_neg (h ▸ own_irr x)
theorem own_min_r {x y : Int32} (h : y < x) : own_min x y = y := if_pos h
theorem own_mm {x y : Int32} (h : ¬ x = y) : own_min x y < own_max x y := by
  rcases own_tri x y with q | q | q
  · rw [own_min_l q, own_max, if_pos q]; exact q
  · exact absurd q h
  · rw [own_min_r q, own_max, if_neg (own_asym q)]; exact q
def own_has : List Int32 → Int32 → Int32
  | [], _ => 0
  | r :: rs, x => if r = x then 1 else own_has rs x
theorem own_has_mem : ∀ (l : List Int32) (x : Int32), x ∈ l → own_has l x = 1
  | r :: rs, x, h => by
    by_cases q : r = x
    · rw [own_has, if_pos q]
    · rw [own_has, if_neg q]
      exact own_has_mem rs x ((List.mem_cons.mp h).elim (fun e => absurd e.symm q) id)
theorem own_has_01 : ∀ (l : List Int32) (x : Int32), own_has l x = 1 ∨ (own_has l x = 0 ∧ x ∉ l)
  | [], x => Or.inr ⟨rfl, fun h => nomatch h⟩
  | r :: rs, x => by
    by_cases q : r = x
    · exact Or.inl (by rw [own_has, if_pos q])
    · rw [own_has, if_neg q]
      rcases own_has_01 rs x with h | ⟨h1, h2⟩
      · exact Or.inl h
      · exact Or.inr ⟨h1, fun m => (List.mem_cons.mp m).elim (fun e => q e.symm) h2⟩
theorem own_ofn {i : Nat} (h : i < 100) : (Int32.ofNat i).toInt = i := Int32.toInt_ofNat_of_lt (by omega)
theorem own_lt {i j : Nat} (hi : i < 100) (hj : j < 100) : Int32.ofNat i < Int32.ofNat j ↔ i < j := by
  rw [Int32.lt_iff_toInt_lt, own_ofn hi, own_ofn hj]; omega
theorem own_eq {i j : Nat} (hi : i < 100) (hj : j < 100) : Int32.ofNat i = Int32.ofNat j ↔ i = j := by
  rw [← Int32.toInt_inj, own_ofn hi, own_ofn hj]; omega
theorem own_nn {i : Nat} (hi : i < 100) : ¬ Int32.ofNat i < 0 := by
  rw [Int32.lt_iff_toInt_lt, own_ofn hi, show (0 : Int32).toInt = 0 from rfl]; omega
theorem own_nat {i : Nat} (hi : i < 100) : (Int32.ofNat i).toNatClampNeg = i := by
  rw [Int32.toNatClampNeg, own_ofn hi]; rfl
theorem own_succ (i : Nat) : Int32.ofNat i + (1 : Int32) = Int32.ofNat (i + 1) := (Int32.ofNat_add i 1).symm
theorem own_zero (x : Int32) : x + (0 : Int32) = x := Int32.add_zero x
theorem own_sum (i j : Nat) : Int32.ofNat i + Int32.ofNat j = Int32.ofNat (i + j) := (Int32.ofNat_add i j).symm
theorem own_at (l : List Int32) {i : Nat} {x : Int32} {r : List Int32} (h : l.drop i = x :: r) (d : Value) : (l.map Value.int).getD i d = .int x := by
  have : l[i]? = some x := by
    have := congrArg List.head? h
    simpa [List.head?_drop] using this
  simp [List.getD_eq_getElem?_getD, this]
theorem own_dl {l : List Int32} {i : Nat} {x : Int32} {r : List Int32} (h : l.drop i = x :: r) : i < l.length ∧ l.drop (i + 1) = r := by
  refine ⟨?_, ?_⟩
  · rcases Nat.lt_or_ge i l.length with q | q
    · exact q
    · rw [List.drop_eq_nil_of_le q] at h; cases h
  · rw [← List.drop_drop, h]; rfl
theorem own_dn {l : List Int32} {i : Nat} (h : l.drop i = []) : l.length ≤ i ∧ l.drop (i + 1) = [] :=
  have q : l.length ≤ i := List.drop_eq_nil_iff.mp h
  ⟨q, List.drop_eq_nil_of_le (by omega)⟩
def own_inv (la lb ro A B : List Int32) : Prop :=
  ro.Pairwise (· < ·) ∧ (∀ x ∈ ro, ∀ y, (y ∈ A ∨ y ∈ B) → x < y) ∧ (∀ x, (x ∈ ro ∨ x ∈ A ∨ x ∈ B) ↔ (x ∈ la ∨ x ∈ lb)) ∧ A.Pairwise (· < ·) ∧ B.Pairwise (· < ·)
theorem own_inv_step {la lb ro A B A2 B2 : List Int32} {w : Int32} (h : own_inv la lb ro A B) (h1 : w ∈ A ∨ w ∈ B) (h2 : ∀ z, (z = w ∨ z ∈ A2 ∨ z ∈ B2) ↔ (z ∈ A ∨ z ∈ B)) (h3 : ∀ z, (z ∈ A2 ∨ z ∈ B2) → w < z)
    (h4 : A2.Pairwise (· < ·)) (h5 : B2.Pairwise (· < ·)) : own_inv la lb (ro ++ [w]) A2 B2 := by
  obtain ⟨i1, i2, i3, -, -⟩ := h
  refine ⟨?_, ?_, ?_, h4, h5⟩
  · rw [List.pairwise_append]
    exact ⟨i1, List.pairwise_singleton _ _, fun x hx y hy => by rw [List.mem_singleton] at hy; subst hy; exact i2 x hx _ h1⟩
  · intro x hx y hy
    rcases List.mem_append.mp hx with q | q
    · exact i2 x q y ((h2 y).mp (Or.inr hy))
    · rw [List.mem_singleton] at q; subst q; exact h3 y hy
  · intro x
    rw [← i3 x, List.mem_append, List.mem_singleton]
    constructor
    · rintro ((q | q) | q)
      · exact Or.inl q
      · exact Or.inr ((h2 x).mp (Or.inl q))
      · exact Or.inr ((h2 x).mp (Or.inr q))
    · rintro (q | q)
      · exact Or.inl (Or.inl q)
      · rcases (h2 x).mpr q with r | r
        · exact Or.inl (Or.inr r)
        · exact Or.inr r
theorem own_pc {x y : Int32} {r : List Int32} (h : (x :: r).Pairwise (· < ·)) (hy : y ∈ r) : x < y := (List.pairwise_cons.mp h).1 y hy
theorem own_pt {x : Int32} {r : List Int32} (h : (x :: r).Pairwise (· < ·)) : r.Pairwise (· < ·) := (List.pairwise_cons.mp h).2
/-- the first of A is the lesser one (or B is empty) -/
theorem own_inv_l {la lb ro A' B : List Int32} {x y : Int32} (h : own_inv la lb ro (x :: A') B) (hxy : x < y) (hB : B = [] ∨ ∃ B', B = y :: B') : own_inv la lb (ro ++ [x]) A' B := by
  refine own_inv_step h (Or.inl List.mem_cons_self) (fun z => ?_) (fun z hz => ?_) (own_pt h.2.2.2.1) h.2.2.2.2
  · rw [List.mem_cons, or_assoc]
  · rcases hz with q | q
    · exact own_pc h.2.2.2.1 q
    · rcases hB with rfl | ⟨B', rfl⟩
      · exact nomatch q
      · rcases List.mem_cons.mp q with r | r
        · rw [r]; exact hxy
        · exact own_tr hxy (own_pc h.2.2.2.2 r)
theorem own_inv_r {la lb ro A B' : List Int32} {x y : Int32} (h : own_inv la lb ro A (y :: B')) (hxy : y < x) (hA : A = [] ∨ ∃ A', A = x :: A') : own_inv la lb (ro ++ [y]) A B' := by
  refine own_inv_step h (Or.inr List.mem_cons_self) (fun z => ?_) (fun z hz => ?_) h.2.2.2.1 (own_pt h.2.2.2.2)
  · rw [List.mem_cons]
    constructor
    · rintro (q | q | q)
      · exact Or.inr (Or.inl q)
      · exact Or.inl q
      · exact Or.inr (Or.inr q)
    · rintro (q | q | q)
      · exact Or.inr (Or.inl q)
      · exact Or.inl q
      · exact Or.inr (Or.inr q)
  · rcases hz with q | q
    · rcases hA with rfl | ⟨A', rfl⟩
      · exact nomatch q
      · rcases List.mem_cons.mp q with r | r
        · rw [r]; exact hxy
        · exact own_tr hxy (own_pc h.2.2.2.1 r)
    · exact own_pc h.2.2.2.2 q
theorem own_inv_e {la lb ro A' B' : List Int32} {x : Int32} (h : own_inv la lb ro (x :: A') (x :: B')) : own_inv la lb (ro ++ [x]) A' B' := by
  refine own_inv_step h (Or.inl List.mem_cons_self) (fun z => ?_) (fun z hz => ?_) (own_pt h.2.2.2.1) (own_pt h.2.2.2.2)
  · rw [List.mem_cons, List.mem_cons]
    constructor
    · rintro (q | q | q)
      · exact Or.inl (Or.inl q)
      · exact Or.inl (Or.inr q)
      · exact Or.inr (Or.inr q)
    · rintro ((q | q) | (q | q))
      · exact Or.inl q
      · exact Or.inr (Or.inl q)
      · exact Or.inl q
      · exact Or.inr (Or.inr q)
  · rcases hz with q | q
    · exact own_pc h.2.2.2.1 q
    · exact own_pc h.2.2.2.2 q
/-- the greatest int, alone at the end -/
theorem own_inv_lm {la lb ro A' : List Int32} (h : own_inv la lb ro ((2147483647 : Int32) :: A') []) : A' = [] ∧ own_inv la lb (ro ++ [(2147483647 : Int32)]) A' [] := by
  have q : A' = [] := by
    cases A' with
    | nil => rfl
    | cons z r => exact absurd (own_pc h.2.2.2.1 List.mem_cons_self) (own_nmax z)
  subst q
  exact ⟨rfl, own_inv_step h (Or.inl List.mem_cons_self) (fun z => by simp) (fun z hz => by simp at hz) List.Pairwise.nil List.Pairwise.nil⟩
theorem own_inv_rm {la lb ro B' : List Int32} (h : own_inv la lb ro [] ((2147483647 : Int32) :: B')) : B' = [] ∧ own_inv la lb (ro ++ [(2147483647 : Int32)]) [] B' := by
  have q : B' = [] := by
    cases B' with
    | nil => rfl
    | cons z r => exact absurd (own_pc h.2.2.2.2 List.mem_cons_self) (own_nmax z)
  subst q
  exact ⟨rfl, own_inv_step h (Or.inr List.mem_cons_self) (fun z => by simp) (fun z hz => by simp at hz) List.Pairwise.nil List.Pairwise.nil⟩
theorem own_cp (vs : List Value) (d : Value) : (List.range vs.length).map (fun i => vs.getD (0 + i) d) = vs := by
  apply List.ext_getElem
  · simp
  · intro i h1 h2
    simp only [List.length_map, List.length_range] at h1
    simp [h1]
theorem own_snoc (ro : List Int32) (w : Int32) : (ro.map Value.int ++ List.replicate 1 (Value.int 0)).set ro.length (Value.int w) = (ro ++ [w]).map Value.int := by
  rw [List.set_append_right _ _ (by simp)]; simp
theorem d7_0 : decode jdk_29_method_69_code 0 = .ok (.iload_n 0, 1) := by decide +kernel
theorem d7_1 : decode jdk_29_method_69_code 1 = .ok (.iload_n 1, 1) := by decide +kernel
theorem d7_2 : decode jdk_29_method_69_code 2 = .ok (.if_icmp .gt 7, 3) := by decide +kernel
theorem d7_5 : decode jdk_29_method_69_code 5 = .ok (.iload_n 0, 1) := by decide +kernel
theorem d7_6 : decode jdk_29_method_69_code 6 = .ok (.goto 4, 3) := by decide +kernel
theorem d7_9 : decode jdk_29_method_69_code 9 = .ok (.iload_n 1, 1) := by decide +kernel
theorem d7_10 : decode jdk_29_method_69_code 10 = .ok (.ireturn, 1) := by decide +kernel
theorem ef_rmMin (m : MethodId) (x0 : Int32) (x1 : Int32) : entryFrame m #[(.int x0), (.int x1)] 2 = mkF m 0 #[.val (.int x0), .val (.int x1)] [] := by first | (simp [entryFrame, mkF, argsToLocals, Value.category]; done) | rfl
def Q_rmMin (Z : State) (x0 x1 : Int32) (h0 : Heap) (n0 : Nat) : Option Value → Heap → List Loc → Prop := fun v h L => v = some (.int (own_min x0 x1)) ∧ Fr n0 L ∧ h = h0
set_option maxRecDepth 65536 in
set_option maxHeartbeats 40000000 in
theorem rmMin (l : Launch) (Z : State) (a0 : Array Value) (hw : ∀ d ∈ tables_1, d.before a0 Z = true) (ws : List Jvm.Cond) (x0 x1 : Int32) (h0 : Heap) (n0 : Nat) (Z0 : n0 ≤ h0.size)  :
    MetFree l (⟨"java/lang/Math", "min", "(II)I"⟩ : MethodName) (head1 (Jvm.Cond.code (⟨"java/lang/Math", "min", "(II)I"⟩ : MethodName) jdk_29_method_69_code 2 (some .int) :: ws) ({ frames := 0, cells := 0, slots := 0, locals := 0 } : Room)) (fun as_ U => as_ = #[(.int x0), (.int x1)] ∧ Z.Warmed39 U.vm ∧ U.heap = h0) (fun _ _ _ _ _ => True) (fun _ U o U' => ∃ v L, o = .returned v ∧ (Q_rmMin Z x0 x1 h0 n0) v U'.heap L ∧ FrameEnd U o U' L ({ frames := 0, cells := 0, slots := 0, locals := 0 } : Room).cells ({ frames := 0, cells := 0, slots := 0, locals := 0 } : Room).slots) := by
  refine MetFree.of_bodySF (Jvm.Free.JP.mathPlain rfl (by decide +kernel)) hisR ?_
  intro p e s m args below meth c s₁ Bd hml0 hP hK
  obtain ⟨rfl, hZ, hh⟩ := hP
  have hx := Bd.exec
  have hby := Bd.bytes
  have hml : c.maxLocals = 2 := hml0
  have hown : s.vm.findClass "java/lang/Math" = some m.cls := findClass_of_methodNamed Bd.named
  have hnm := (name_of_methodNamed Bd.named Bd.method).1
  have X0 : Stand p l e ({ frames := 0, cells := 0, slots := 0, locals := 0 } : Room) s m #[(.int x0), (.int x1)] below meth c s₁ [] 0 0 := Stand.of_body Bd
  have e0 : s₁.heap = h0 := by rw [← hh, Bd.state]; rfl
  have N0 := Fr.nil n0
  show own_G p e below s (Q_rmMin Z x0 x1 h0 n0) ({ frames := 0, cells := 0, slots := 0, locals := 0 } : Room).cells ({ frames := 0, cells := 0, slots := 0, locals := 0 } : Room).slots (s₁.setTop (entryFrame m #[(.int x0), (.int x1)] 2))
  rw [ef_rmMin m x0 x1]
  show own_G p e below s _ _ _ (s₁.setTop (mkF m 0 #[.val (.int x0), .val (.int x1)] []))
  refine own_go (fun _ kk_ => XS.iloadN X0.here hx rfl (hb hby d7_0) rfl kk_) ?_
  show own_G p e below s _ _ _ (s₁.setTop (mkF m 1 #[.val (.int x0), .val (.int x1)] [(.int x0)]))
  refine own_go (fun _ kk_ => XS.iloadN X0.here hx rfl (hb hby d7_1) rfl kk_) ?_
  show own_G p e below s _ _ _ (s₁.setTop (mkF m 2 #[.val (.int x0), .val (.int x1)] [(.int x1), (.int x0)]))
  refine own_ic_gt X0 hx (pc := 2) (pc' := 9) (hb hby d7_2) (by decide) (by decide) (fun hc2 => ?_) (fun hc2 => ?_)
  · show own_G p e below s _ _ _ (s₁.setTop (mkF m 9 #[.val (.int x0), .val (.int x1)] []))
    refine own_go (fun _ kk_ => XS.iloadN X0.here hx rfl (hb hby d7_9) rfl kk_) ?_
    show own_G p e below s _ _ _ (s₁.setTop (mkF m 10 #[.val (.int x0), .val (.int x1)] [(.int x1)]))
    exact own_retI X0 hx Bd.returns (BodyLoose.notSynchronized Bd) (hb hby d7_10) e0 ⟨by simp [own_min, hc2], N0, rfl⟩ (by decide) (by decide)
  · show own_G p e below s _ _ _ (s₁.setTop (mkF m 5 #[.val (.int x0), .val (.int x1)] []))
    refine own_go (fun _ kk_ => XS.iloadN X0.here hx rfl (hb hby d7_5) rfl kk_) ?_
    show own_G p e below s _ _ _ (s₁.setTop (mkF m 6 #[.val (.int x0), .val (.int x1)] [(.int x0)]))
    refine own_go (fun _ kk_ => XS.goto X0.here hx rfl (pc0 := 6) (pc' := 10) rfl (hb hby d7_6) (by decide) (by decide) kk_) ?_
    show own_G p e below s _ _ _ (s₁.setTop (mkF m 10 #[.val (.int x0), .val (.int x1)] [(.int x0)]))
    exact own_retI X0 hx Bd.returns (BodyLoose.notSynchronized Bd) (hb hby d7_10) e0 ⟨by simp [own_min, hc2], N0, rfl⟩ (by decide) (by decide)
theorem d9_0 : decode jdk_29_method_65_code 0 = .ok (.iload_n 0, 1) := by decide +kernel
theorem d9_1 : decode jdk_29_method_65_code 1 = .ok (.iload_n 1, 1) := by decide +kernel
theorem d9_2 : decode jdk_29_method_65_code 2 = .ok (.if_icmp .lt 7, 3) := by decide +kernel
theorem d9_5 : decode jdk_29_method_65_code 5 = .ok (.iload_n 0, 1) := by decide +kernel
theorem d9_6 : decode jdk_29_method_65_code 6 = .ok (.goto 4, 3) := by decide +kernel
theorem d9_9 : decode jdk_29_method_65_code 9 = .ok (.iload_n 1, 1) := by decide +kernel
theorem d9_10 : decode jdk_29_method_65_code 10 = .ok (.ireturn, 1) := by decide +kernel
theorem ef_rmMax (m : MethodId) (x0 : Int32) (x1 : Int32) : entryFrame m #[(.int x0), (.int x1)] 2 = mkF m 0 #[.val (.int x0), .val (.int x1)] [] := by first | (simp [entryFrame, mkF, argsToLocals, Value.category]; done) | rfl
def Q_rmMax (Z : State) (x0 x1 : Int32) (h0 : Heap) (n0 : Nat) : Option Value → Heap → List Loc → Prop := fun v h L => v = some (.int (own_max x0 x1)) ∧ Fr n0 L ∧ h = h0
set_option maxRecDepth 65536 in
set_option maxHeartbeats 40000000 in
theorem rmMax (l : Launch) (Z : State) (a0 : Array Value) (hw : ∀ d ∈ tables_1, d.before a0 Z = true) (ws : List Jvm.Cond) (x0 x1 : Int32) (h0 : Heap) (n0 : Nat) (Z0 : n0 ≤ h0.size)  :
    MetFree l (⟨"java/lang/Math", "max", "(II)I"⟩ : MethodName) (head1 (Jvm.Cond.code (⟨"java/lang/Math", "max", "(II)I"⟩ : MethodName) jdk_29_method_65_code 2 (some .int) :: ws) ({ frames := 0, cells := 0, slots := 0, locals := 0 } : Room)) (fun as_ U => as_ = #[(.int x0), (.int x1)] ∧ Z.Warmed39 U.vm ∧ U.heap = h0) (fun _ _ _ _ _ => True) (fun _ U o U' => ∃ v L, o = .returned v ∧ (Q_rmMax Z x0 x1 h0 n0) v U'.heap L ∧ FrameEnd U o U' L ({ frames := 0, cells := 0, slots := 0, locals := 0 } : Room).cells ({ frames := 0, cells := 0, slots := 0, locals := 0 } : Room).slots) := by
  refine MetFree.of_bodySF (Jvm.Free.JP.mathPlain rfl (by decide +kernel)) hisR ?_
  intro p e s m args below meth c s₁ Bd hml0 hP hK
  obtain ⟨rfl, hZ, hh⟩ := hP
  have hx := Bd.exec
  have hby := Bd.bytes
  have hml : c.maxLocals = 2 := hml0
  have hown : s.vm.findClass "java/lang/Math" = some m.cls := findClass_of_methodNamed Bd.named
  have hnm := (name_of_methodNamed Bd.named Bd.method).1
  have X0 : Stand p l e ({ frames := 0, cells := 0, slots := 0, locals := 0 } : Room) s m #[(.int x0), (.int x1)] below meth c s₁ [] 0 0 := Stand.of_body Bd
  have e0 : s₁.heap = h0 := by rw [← hh, Bd.state]; rfl
  have N0 := Fr.nil n0
  show own_G p e below s (Q_rmMax Z x0 x1 h0 n0) ({ frames := 0, cells := 0, slots := 0, locals := 0 } : Room).cells ({ frames := 0, cells := 0, slots := 0, locals := 0 } : Room).slots (s₁.setTop (entryFrame m #[(.int x0), (.int x1)] 2))
  rw [ef_rmMax m x0 x1]
  show own_G p e below s _ _ _ (s₁.setTop (mkF m 0 #[.val (.int x0), .val (.int x1)] []))
  refine own_go (fun _ kk_ => XS.iloadN X0.here hx rfl (hb hby d9_0) rfl kk_) ?_
  show own_G p e below s _ _ _ (s₁.setTop (mkF m 1 #[.val (.int x0), .val (.int x1)] [(.int x0)]))
  refine own_go (fun _ kk_ => XS.iloadN X0.here hx rfl (hb hby d9_1) rfl kk_) ?_
  show own_G p e below s _ _ _ (s₁.setTop (mkF m 2 #[.val (.int x0), .val (.int x1)] [(.int x1), (.int x0)]))
  refine own_ic_lt X0 hx (pc := 2) (pc' := 9) (hb hby d9_2) (by decide) (by decide) (fun hc2 => ?_) (fun hc2 => ?_)
  · show own_G p e below s _ _ _ (s₁.setTop (mkF m 9 #[.val (.int x0), .val (.int x1)] []))
    refine own_go (fun _ kk_ => XS.iloadN X0.here hx rfl (hb hby d9_9) rfl kk_) ?_
    show own_G p e below s _ _ _ (s₁.setTop (mkF m 10 #[.val (.int x0), .val (.int x1)] [(.int x1)]))
    exact own_retI X0 hx Bd.returns (BodyLoose.notSynchronized Bd) (hb hby d9_10) e0 ⟨by simp [own_max, hc2], N0, rfl⟩ (by decide) (by decide)
  · show own_G p e below s _ _ _ (s₁.setTop (mkF m 5 #[.val (.int x0), .val (.int x1)] []))
    refine own_go (fun _ kk_ => XS.iloadN X0.here hx rfl (hb hby d9_5) rfl kk_) ?_
    show own_G p e below s _ _ _ (s₁.setTop (mkF m 6 #[.val (.int x0), .val (.int x1)] [(.int x0)]))
    refine own_go (fun _ kk_ => XS.goto X0.here hx rfl (pc0 := 6) (pc' := 10) rfl (hb hby d9_6) (by decide) (by decide) kk_) ?_
    show own_G p e below s _ _ _ (s₁.setTop (mkF m 10 #[.val (.int x0), .val (.int x1)] [(.int x0)]))
    exact own_retI X0 hx Bd.returns (BodyLoose.notSynchronized Bd) (hb hby d9_10) e0 ⟨by simp [own_max, hc2], N0, rfl⟩ (by decide) (by decide)
theorem d1_0 : decode method_3_code 0 = .ok (.iload_n 2, 1) := by decide +kernel
theorem d1_1 : decode method_3_code 1 = .ok (.ifCond .ne 7, 3) := by decide +kernel
theorem d1_4 : decode method_3_code 4 = .ok (.iconst 0, 1) := by decide +kernel
theorem d1_5 : decode method_3_code 5 = .ok (.newarray .int, 2) := by decide +kernel
theorem d1_7 : decode method_3_code 7 = .ok (.areturn, 1) := by decide +kernel
theorem d1_8 : decode method_3_code 8 = .ok (.iload_n 2, 1) := by decide +kernel
theorem d1_9 : decode method_3_code 9 = .ok (.iconst 1, 1) := by decide +kernel
theorem d1_10 : decode method_3_code 10 = .ok (.if_icmp .eq 8, 3) := by decide +kernel
theorem d1_13 : decode method_3_code 13 = .ok (.iload_n 0, 1) := by decide +kernel
theorem d1_14 : decode method_3_code 14 = .ok (.iload_n 1, 1) := by decide +kernel
theorem d1_15 : decode method_3_code 15 = .ok (.if_icmp .ne 11, 3) := by decide +kernel
theorem d1_18 : decode method_3_code 18 = .ok (.iconst 1, 1) := by decide +kernel
theorem d1_19 : decode method_3_code 19 = .ok (.newarray .int, 2) := by decide +kernel
theorem d1_21 : decode method_3_code 21 = .ok (.dup, 1) := by decide +kernel
theorem d1_22 : decode method_3_code 22 = .ok (.iconst 0, 1) := by decide +kernel
theorem d1_23 : decode method_3_code 23 = .ok (.iload_n 0, 1) := by decide +kernel
theorem d1_24 : decode method_3_code 24 = .ok (.iastore, 1) := by decide +kernel
theorem d1_25 : decode method_3_code 25 = .ok (.areturn, 1) := by decide +kernel
theorem d1_26 : decode method_3_code 26 = .ok (.iconst 2, 1) := by decide +kernel
theorem d1_27 : decode method_3_code 27 = .ok (.newarray .int, 2) := by decide +kernel
theorem d1_29 : decode method_3_code 29 = .ok (.dup, 1) := by decide +kernel
theorem d1_30 : decode method_3_code 30 = .ok (.iconst 0, 1) := by decide +kernel
theorem d1_31 : decode method_3_code 31 = .ok (.iload_n 0, 1) := by decide +kernel
theorem d1_32 : decode method_3_code 32 = .ok (.iload_n 1, 1) := by decide +kernel
theorem d1_33 : decode method_3_code 33 = .ok (.invokestatic 31, 3) := by decide +kernel
theorem d1_36 : decode method_3_code 36 = .ok (.iastore, 1) := by decide +kernel
theorem d1_37 : decode method_3_code 37 = .ok (.dup, 1) := by decide +kernel
theorem d1_38 : decode method_3_code 38 = .ok (.iconst 1, 1) := by decide +kernel
theorem d1_39 : decode method_3_code 39 = .ok (.iload_n 0, 1) := by decide +kernel
theorem d1_40 : decode method_3_code 40 = .ok (.iload_n 1, 1) := by decide +kernel
theorem d1_41 : decode method_3_code 41 = .ok (.invokestatic 37, 3) := by decide +kernel
theorem d1_44 : decode method_3_code 44 = .ok (.iastore, 1) := by decide +kernel
theorem d1_45 : decode method_3_code 45 = .ok (.areturn, 1) := by decide +kernel
theorem pn_0 : plainName "com/example/petri_net_analyzer/petrinetanalyzer/SparseVectorUnionPinLaw" = true := by first | (simp [plainName, overriddenIn]; done) | decide +kernel
theorem pd_0 : parseMethodDescriptor "(II)I" = some ⟨[.int, .int], some .int⟩ := by decide +kernel
theorem ef_rmMk (m : MethodId) (x0 : Int32) (x1 : Int32) (x2 : Int32) : entryFrame m #[(.int x0), (.int x1), (.int x2)] 3 = mkF m 0 #[.val (.int x0), .val (.int x1), .val (.int x2)] [] := by first | (simp [entryFrame, mkF, argsToLocals, Value.category]; done) | rfl
def Q_rmMk (Z : State) (x0 x1 x2 : Int32) (h0 : Heap) (n0 : Nat) : Option Value → Heap → List Loc → Prop := fun v h L => ∃ (b : Addr) (kb : ClassId) (lr : List Int32), v = some (.ref b) ∧ Fr n0 L ∧ n0 ≤ h.size ∧ Keep h0 h [] ∧ h0.size ≤ b ∧ Arv Z h b kb .int (Int32.ofNat lr.length) (lr.map Value.int) (.int (0 : Int32)) ∧ lr.Pairwise (· < ·) ∧ lr.length ≤ 2
set_option maxRecDepth 65536 in
set_option maxHeartbeats 40000000 in
theorem rmMk (l : Launch) (Z : State) (a0 : Array Value) (hw : ∀ d ∈ tables_1, d.before a0 Z = true) (ws : List Jvm.Cond) (x0 x1 x2 : Int32) (h0 : Heap) (n0 : Nat) (Z0 : n0 ≤ h0.size)  :
    MetFree l (⟨"com/example/petri_net_analyzer/petrinetanalyzer/SparseVectorUnionPinLaw", "make", "(III)[I"⟩ : MethodName) (head1 (Jvm.Cond.code (⟨"com/example/petri_net_analyzer/petrinetanalyzer/SparseVectorUnionPinLaw", "make", "(III)[I"⟩ : MethodName) method_3_code 3 (some (.array .int)) :: ws) ({ frames := 1, cells := 1, slots := 2, locals := 16 } : Room)) (fun as_ U => as_ = #[(.int x0), (.int x1), (.int x2)] ∧ Z.Warmed39 U.vm ∧ U.heap = h0) (fun _ _ _ _ _ => True) (fun _ U o U' => ∃ v L, o = .returned v ∧ (Q_rmMk Z x0 x1 x2 h0 n0) v U'.heap L ∧ FrameEnd U o U' L ({ frames := 1, cells := 1, slots := 2, locals := 16 } : Room).cells ({ frames := 1, cells := 1, slots := 2, locals := 16 } : Room).slots) := by
  refine MetFree.of_bodySF (plainFor_of_name pn_0) hisR ?_
  intro p e s m args below meth c s₁ Bd hml0 hP hK
  obtain ⟨rfl, hZ, hh⟩ := hP
  have hx := Bd.exec
  have hby := Bd.bytes
  have hml : c.maxLocals = 3 := hml0
  have hown : s.vm.findClass "com/example/petri_net_analyzer/petrinetanalyzer/SparseVectorUnionPinLaw" = some m.cls := findClass_of_methodNamed Bd.named
  have hnm := (name_of_methodNamed Bd.named Bd.method).1
  have X0 : Stand p l e ({ frames := 1, cells := 1, slots := 2, locals := 16 } : Room) s m #[(.int x0), (.int x1), (.int x2)] below meth c s₁ [] 0 0 := Stand.of_body Bd
  have e0 : s₁.heap = h0 := by rw [← hh, Bd.state]; rfl
  have N0 := Fr.nil n0
  show own_G p e below s (Q_rmMk Z x0 x1 x2 h0 n0) ({ frames := 1, cells := 1, slots := 2, locals := 16 } : Room).cells ({ frames := 1, cells := 1, slots := 2, locals := 16 } : Room).slots (s₁.setTop (entryFrame m #[(.int x0), (.int x1), (.int x2)] 3))
  rw [ef_rmMk m x0 x1 x2]
  have K0 : Keep h0 h0 [] := Keep.refl _ _
  show own_G p e below s _ _ _ (s₁.setTop (mkF m 0 #[.val (.int x0), .val (.int x1), .val (.int x2)] []))
  refine own_go (fun _ kk_ => XS.iloadN X0.here hx rfl (hb hby d1_0) rfl kk_) ?_
  show own_G p e below s _ _ _ (s₁.setTop (mkF m 1 #[.val (.int x0), .val (.int x1), .val (.int x2)] [(.int x2)]))
  refine own_if_ne X0 hx (pc := 1) (pc' := 8) (hb hby d1_1) (by decide) (by decide) (fun hc1 => ?_) (fun hc1 => ?_)
  · show own_G p e below s _ _ _ (s₁.setTop (mkF m 8 #[.val (.int x0), .val (.int x1), .val (.int x2)] []))
    refine own_go (fun _ kk_ => XS.iloadN X0.here hx rfl (hb hby d1_8) rfl kk_) ?_
    show own_G p e below s _ _ _ (s₁.setTop (mkF m 9 #[.val (.int x0), .val (.int x1), .val (.int x2)] [(.int x2)]))
    refine own_go (fun _ kk_ => XS.iconst X0.here hx rfl (hb hby d1_9) kk_) ?_
    show own_G p e below s _ _ _ (s₁.setTop (mkF m 10 #[.val (.int x0), .val (.int x1), .val (.int x2)] [(.int (1 : Int32)), (.int x2)]))
    refine own_ic_eq X0 hx (pc := 10) (pc' := 18) (hb hby d1_10) (by decide) (by decide) (fun hc10 => ?_) (fun hc10 => ?_)
    · show own_G p e below s _ _ _ (s₁.setTop (mkF m 18 #[.val (.int x0), .val (.int x1), .val (.int x2)] []))
      refine own_go (fun _ kk_ => XS.iconst X0.here hx rfl (hb hby d1_18) kk_) ?_
      show own_G p e below s _ _ _ (s₁.setTop (mkF m 19 #[.val (.int x0), .val (.int x1), .val (.int x2)] [(.int (1 : Int32))]))
      obtain ⟨T1, h1, k1, X1, e1, E1, A1, st1⟩ := newP X0 hx hZ (hw _ (List.mem_of_getElem? (i := 4) rfl)) e0 (g := (mkF m 19 #[.val (.int x0), .val (.int x1), .val (.int x2)] [(.int (1 : Int32))])) rfl (hb hby d1_19) rfl (by decide) (cap := 1) (by decide) (by decide) (by decide) (by decide)
      obtain ⟨b1, g1⟩ : ∃ z, z = h0.size := ⟨_, rfl⟩
      rw [← g1] at A1 st1
      refine own_go st1 ?_
      have K1_ := K0.ext E1
      have g_b1 : n0 ≤ b1 := Nat.le_trans Z0 (Nat.le_of_eq g1.symm)
      have Z1 : n0 ≤ h1.size := Nat.le_trans Z0 E1.1
      have ko_b1 : h0.size ≤ b1 := Nat.le_trans K0.1 (Nat.le_of_eq g1.symm)
      have V1_b1 : Arv Z h1 b1 k1 .int (1 : Int32) [(.int (0 : Int32))] (.int (0 : Int32)) := (Arv.new A1 (by decide)).pad (pad_rep [] (.int (0 : Int32)) 1)
      show own_G p e below s _ _ _ (T1.setTop (mkF m 21 #[.val (.int x0), .val (.int x1), .val (.int x2)] [(.ref b1)]))
      refine own_go (fun _ kk_ => XS.dup X1.here hx rfl (hb hby d1_21) rfl rfl kk_) ?_
      show own_G p e below s _ _ _ (T1.setTop (mkF m 22 #[.val (.int x0), .val (.int x1), .val (.int x2)] [(.ref b1), (.ref b1)]))
      refine own_go (fun _ kk_ => XS.iconst X1.here hx rfl (hb hby d1_22) kk_) ?_
      show own_G p e below s _ _ _ (T1.setTop (mkF m 23 #[.val (.int x0), .val (.int x1), .val (.int x2)] [(.int (0 : Int32)), (.ref b1), (.ref b1)]))
      refine own_go (fun _ kk_ => XS.iloadN X1.here hx rfl (hb hby d1_23) rfl kk_) ?_
      show own_G p e below s _ _ _ (T1.setTop (mkF m 24 #[.val (.int x0), .val (.int x1), .val (.int x2)] [(.int x0), (.int (0 : Int32)), (.ref b1), (.ref b1)]))
      have Vc2 := V1_b1
      obtain ⟨cl2, Ar2, q2, S2, M2, H2, G2⟩ := Vc2
      have hin2 := inb_of (j := (0 : Int32)) S2 ⟨(by decide), (by decide)⟩
      obtain ⟨T3, h3, X3, e3, W3, st3⟩ := stI X1 hx hZ e1 Ar2 (j := (0 : Int32)) hin2 (g := (mkF m 24 #[.val (.int x0), .val (.int x1), .val (.int x2)] [(.int x0), (.int (0 : Int32)), (.ref b1), (.ref b1)])) rfl rfl (hb hby d1_24)
      refine own_go st3 ?_
      have K3_ := K1_.wr W3 (Or.inr ko_b1)
      have V3_b1 : Arv Z h3 b1 k1 .int (1 : Int32) [(.int x0)] (.int (0 : Int32)) := Arv.set Ar2 q2 S2 M2 H2 G2 rfl W3 0 rfl (Nat.le_of_ble_eq_true rfl)
      have Z3 : n0 ≤ h3.size := by rw [W3.size]; exact Z1
      have N3 := Fr.snoc X3 N0 g_b1
      show own_G p e below s _ _ _ (T3.setTop (mkF m 25 #[.val (.int x0), .val (.int x1), .val (.int x2)] [(.ref b1)]))
      exact own_retA (ht := rfl) (hv := rfl) X3 hx Bd.returns (BodyLoose.notSynchronized Bd) (hb hby d1_25) e3 ⟨_, _, [x0], rfl, N3, Z3, K3_, ko_b1, V3_b1, (List.pairwise_singleton _ _), (Nat.le_of_ble_eq_true rfl)⟩ (by decide) (by decide)
    · show own_G p e below s _ _ _ (s₁.setTop (mkF m 13 #[.val (.int x0), .val (.int x1), .val (.int x2)] []))
      refine own_go (fun _ kk_ => XS.iloadN X0.here hx rfl (hb hby d1_13) rfl kk_) ?_
      show own_G p e below s _ _ _ (s₁.setTop (mkF m 14 #[.val (.int x0), .val (.int x1), .val (.int x2)] [(.int x0)]))
      refine own_go (fun _ kk_ => XS.iloadN X0.here hx rfl (hb hby d1_14) rfl kk_) ?_
      show own_G p e below s _ _ _ (s₁.setTop (mkF m 15 #[.val (.int x0), .val (.int x1), .val (.int x2)] [(.int x1), (.int x0)]))
      refine own_ic_ne X0 hx (pc := 15) (pc' := 26) (hb hby d1_15) (by decide) (by decide) (fun hc15 => ?_) (fun hc15 => ?_)
      · show own_G p e below s _ _ _ (s₁.setTop (mkF m 26 #[.val (.int x0), .val (.int x1), .val (.int x2)] []))
        refine own_go (fun _ kk_ => XS.iconst X0.here hx rfl (hb hby d1_26) kk_) ?_
        show own_G p e below s _ _ _ (s₁.setTop (mkF m 27 #[.val (.int x0), .val (.int x1), .val (.int x2)] [(.int (2 : Int32))]))
        obtain ⟨T4, h4, k4, X4, e4, E4, A4, st4⟩ := newP X0 hx hZ (hw _ (List.mem_of_getElem? (i := 4) rfl)) e0 (g := (mkF m 27 #[.val (.int x0), .val (.int x1), .val (.int x2)] [(.int (2 : Int32))])) rfl (hb hby d1_27) rfl (by decide) (cap := 2) (by decide) (by decide) (by decide) (by decide)
        obtain ⟨b4, g4⟩ : ∃ z, z = h0.size := ⟨_, rfl⟩
        rw [← g4] at A4 st4
        refine own_go st4 ?_
        have K4_ := K0.ext E4
        have g_b4 : n0 ≤ b4 := Nat.le_trans Z0 (Nat.le_of_eq g4.symm)
        have Z4 : n0 ≤ h4.size := Nat.le_trans Z0 E4.1
        have ko_b4 : h0.size ≤ b4 := Nat.le_trans K0.1 (Nat.le_of_eq g4.symm)
        have V4_b4 : Arv Z h4 b4 k4 .int (2 : Int32) [(.int (0 : Int32)), (.int (0 : Int32))] (.int (0 : Int32)) := (Arv.new A4 (by decide)).pad (pad_rep [] (.int (0 : Int32)) 2)
        show own_G p e below s _ _ _ (T4.setTop (mkF m 29 #[.val (.int x0), .val (.int x1), .val (.int x2)] [(.ref b4)]))
        refine own_go (fun _ kk_ => XS.dup X4.here hx rfl (hb hby d1_29) rfl rfl kk_) ?_
        show own_G p e below s _ _ _ (T4.setTop (mkF m 30 #[.val (.int x0), .val (.int x1), .val (.int x2)] [(.ref b4), (.ref b4)]))
        refine own_go (fun _ kk_ => XS.iconst X4.here hx rfl (hb hby d1_30) kk_) ?_
        show own_G p e below s _ _ _ (T4.setTop (mkF m 31 #[.val (.int x0), .val (.int x1), .val (.int x2)] [(.int (0 : Int32)), (.ref b4), (.ref b4)]))
        refine own_go (fun _ kk_ => XS.iloadN X4.here hx rfl (hb hby d1_31) rfl kk_) ?_
        show own_G p e below s _ _ _ (T4.setTop (mkF m 32 #[.val (.int x0), .val (.int x1), .val (.int x2)] [(.int x0), (.int (0 : Int32)), (.ref b4), (.ref b4)]))
        refine own_go (fun _ kk_ => XS.iloadN X4.here hx rfl (hb hby d1_32) rfl kk_) ?_
        show own_G p e below s _ _ _ (T4.setTop (mkF m 33 #[.val (.int x0), .val (.int x1), .val (.int x2)] [(.int x1), (.int x0), (.int (0 : Int32)), (.ref b4), (.ref b4)]))
        obtain ⟨_, _, ⟨T5, L5, k5, n5⟩, -, X5, ⟨Lc5, hQ5, l5, y5, z5⟩, st5⟩ := Jvm.LawKit.callS X4 hx (y := (⟨"java/lang/Math", "min", "(II)I"⟩ : MethodName)) hown (mvT hZ (hw _ (List.mem_of_getElem? (i := 39) rfl))) (mvT hZ (hw _ (List.mem_of_getElem? (i := 33) rfl))) (mvT hZ (hw _ (List.mem_of_getElem? (i := 34) rfl))) (mvT hZ (hw _ (List.mem_of_getElem? (i := 35) rfl))) (by decide) (backOf (W := 3) (rmMin l Z a0 hw [] x0 x1 h4 n0 Z4) hZ (hw _ (List.mem_of_getElem? (i := 35) rfl)) (hw _ (List.mem_of_getElem? (i := 34) rfl)) (by decide) (by decide)) (g := (mkF m 33 #[.val (.int x0), .val (.int x1), .val (.int x2)] [(.int x1), (.int x0), (.int (0 : Int32)), (.ref b4), (.ref b4)])) rfl (by rw [hml]; rfl) (argsL := [(.int x0), (.int x1)]) (rest := [(.int (0 : Int32)), (.ref b4), (.ref b4)]) (lenOf pd_0 rfl) rfl (by show 2 * 0 + _ ≤ _; exact Nat.le_of_eq rfl) (hb hby d1_33) (fun _ _ => ⟨rfl, e4, (by decide : 1 + 0 ≤ _), (by decide : 2 + 0 ≤ _)⟩)
        dsimp only [Pt.U, Pt.locs, Pt.cells, Pt.slots] at X5 l5 y5 z5 st5 hQ5
        subst l5 y5 z5
        obtain ⟨rfl, N5q, e5⟩ := hQ5
        have N5 := Fr.app N0 N5q
        refine own_go st5 ?_
        show own_G p e below s _ _ _ (T5.setTop (mkF m 36 #[.val (.int x0), .val (.int x1), .val (.int x2)] [(.int (own_min x0 x1)), (.int (0 : Int32)), (.ref b4), (.ref b4)]))
        have Vc6 := V4_b4
        obtain ⟨cl6, Ar6, q6, S6, M6, H6, G6⟩ := Vc6
        have hin6 := inb_of (j := (0 : Int32)) S6 ⟨(by decide), (by decide)⟩
        obtain ⟨T7, h7, X7, e7, W7, st7⟩ := stI X5 hx hZ e5 Ar6 (j := (0 : Int32)) hin6 (g := (mkF m 36 #[.val (.int x0), .val (.int x1), .val (.int x2)] [(.int (own_min x0 x1)), (.int (0 : Int32)), (.ref b4), (.ref b4)])) rfl rfl (hb hby d1_36)
        refine own_go st7 ?_
        have K7_ := K4_.wr W7 (Or.inr ko_b4)
        have V7_b4 : Arv Z h7 b4 k4 .int (2 : Int32) [(.int (own_min x0 x1)), (.int (0 : Int32))] (.int (0 : Int32)) := Arv.set Ar6 q6 S6 M6 H6 G6 rfl W7 0 rfl (Nat.le_of_ble_eq_true rfl)
        have Z7 : n0 ≤ h7.size := by rw [W7.size]; exact Z4
        have N7 := Fr.snoc X7 N5 g_b4
        show own_G p e below s _ _ _ (T7.setTop (mkF m 37 #[.val (.int x0), .val (.int x1), .val (.int x2)] [(.ref b4)]))
        refine own_go (fun _ kk_ => XS.dup X7.here hx rfl (hb hby d1_37) rfl rfl kk_) ?_
        show own_G p e below s _ _ _ (T7.setTop (mkF m 38 #[.val (.int x0), .val (.int x1), .val (.int x2)] [(.ref b4), (.ref b4)]))
        refine own_go (fun _ kk_ => XS.iconst X7.here hx rfl (hb hby d1_38) kk_) ?_
        show own_G p e below s _ _ _ (T7.setTop (mkF m 39 #[.val (.int x0), .val (.int x1), .val (.int x2)] [(.int (1 : Int32)), (.ref b4), (.ref b4)]))
        refine own_go (fun _ kk_ => XS.iloadN X7.here hx rfl (hb hby d1_39) rfl kk_) ?_
        show own_G p e below s _ _ _ (T7.setTop (mkF m 40 #[.val (.int x0), .val (.int x1), .val (.int x2)] [(.int x0), (.int (1 : Int32)), (.ref b4), (.ref b4)]))
        refine own_go (fun _ kk_ => XS.iloadN X7.here hx rfl (hb hby d1_40) rfl kk_) ?_
        show own_G p e below s _ _ _ (T7.setTop (mkF m 41 #[.val (.int x0), .val (.int x1), .val (.int x2)] [(.int x1), (.int x0), (.int (1 : Int32)), (.ref b4), (.ref b4)]))
        obtain ⟨_, _, ⟨T8, L8, k8, n8⟩, -, X8, ⟨Lc8, hQ8, l8, y8, z8⟩, st8⟩ := Jvm.LawKit.callS X7 hx (y := (⟨"java/lang/Math", "max", "(II)I"⟩ : MethodName)) hown (mvT hZ (hw _ (List.mem_of_getElem? (i := 40) rfl))) (mvT hZ (hw _ (List.mem_of_getElem? (i := 41) rfl))) (mvT hZ (hw _ (List.mem_of_getElem? (i := 34) rfl))) (mvT hZ (hw _ (List.mem_of_getElem? (i := 42) rfl))) (by decide) (backOf (W := 3) (rmMax l Z a0 hw [] x0 x1 h7 n0 Z7) hZ (hw _ (List.mem_of_getElem? (i := 42) rfl)) (hw _ (List.mem_of_getElem? (i := 34) rfl)) (by decide) (by decide)) (g := (mkF m 41 #[.val (.int x0), .val (.int x1), .val (.int x2)] [(.int x1), (.int x0), (.int (1 : Int32)), (.ref b4), (.ref b4)])) rfl (by rw [hml]; rfl) (argsL := [(.int x0), (.int x1)]) (rest := [(.int (1 : Int32)), (.ref b4), (.ref b4)]) (lenOf pd_0 rfl) rfl (by show 2 * 0 + _ ≤ _; exact Nat.le_of_eq rfl) (hb hby d1_41) (fun _ _ => ⟨rfl, e7, (by decide : 1 + 0 ≤ _), (by decide : 2 + 0 ≤ _)⟩)
        dsimp only [Pt.U, Pt.locs, Pt.cells, Pt.slots] at X8 l8 y8 z8 st8 hQ8
        subst l8 y8 z8
        obtain ⟨rfl, N8q, e8⟩ := hQ8
        have N8 := Fr.app N7 N8q
        refine own_go st8 ?_
        show own_G p e below s _ _ _ (T8.setTop (mkF m 44 #[.val (.int x0), .val (.int x1), .val (.int x2)] [(.int (own_max x0 x1)), (.int (1 : Int32)), (.ref b4), (.ref b4)]))
        have Vc9 := V7_b4
        obtain ⟨cl9, Ar9, q9, S9, M9, H9, G9⟩ := Vc9
        have hin9 := inb_of (j := (1 : Int32)) S9 ⟨(by decide), (by decide)⟩
        obtain ⟨T10, h10, X10, e10, W10, st10⟩ := stI X8 hx hZ e8 Ar9 (j := (1 : Int32)) hin9 (g := (mkF m 44 #[.val (.int x0), .val (.int x1), .val (.int x2)] [(.int (own_max x0 x1)), (.int (1 : Int32)), (.ref b4), (.ref b4)])) rfl rfl (hb hby d1_44)
        refine own_go st10 ?_
        have K10_ := K7_.wr W10 (Or.inr ko_b4)
        have V10_b4 : Arv Z h10 b4 k4 .int (2 : Int32) [(.int (own_min x0 x1)), (.int (own_max x0 x1))] (.int (0 : Int32)) := Arv.set Ar9 q9 S9 M9 H9 G9 rfl W10 1 rfl (Nat.le_of_ble_eq_true rfl)
        have Z10 : n0 ≤ h10.size := by rw [W10.size]; exact Z7
        have N10 := Fr.snoc X10 N8 g_b4
        show own_G p e below s _ _ _ (T10.setTop (mkF m 45 #[.val (.int x0), .val (.int x1), .val (.int x2)] [(.ref b4)]))
        exact own_retA (ht := rfl) (hv := rfl) X10 hx Bd.returns (BodyLoose.notSynchronized Bd) (hb hby d1_45) e10 ⟨_, _, [(own_min x0 x1), (own_max x0 x1)], rfl, N10, Z10, K10_, ko_b4, V10_b4, (by rw [List.pairwise_cons]; exact ⟨fun z hz => by rw [List.mem_singleton] at hz; rw [hz]; exact own_mm hc15, List.pairwise_singleton _ _⟩), (Nat.le_of_ble_eq_true rfl)⟩ (by decide) (by decide)
      · show own_G p e below s _ _ _ (s₁.setTop (mkF m 18 #[.val (.int x0), .val (.int x1), .val (.int x2)] []))
        refine own_go (fun _ kk_ => XS.iconst X0.here hx rfl (hb hby d1_18) kk_) ?_
        show own_G p e below s _ _ _ (s₁.setTop (mkF m 19 #[.val (.int x0), .val (.int x1), .val (.int x2)] [(.int (1 : Int32))]))
        obtain ⟨T11, h11, k11, X11, e11, E11, A11, st11⟩ := newP X0 hx hZ (hw _ (List.mem_of_getElem? (i := 4) rfl)) e0 (g := (mkF m 19 #[.val (.int x0), .val (.int x1), .val (.int x2)] [(.int (1 : Int32))])) rfl (hb hby d1_19) rfl (by decide) (cap := 1) (by decide) (by decide) (by decide) (by decide)
        obtain ⟨b11, g11⟩ : ∃ z, z = h0.size := ⟨_, rfl⟩
        rw [← g11] at A11 st11
        refine own_go st11 ?_
        have K11_ := K0.ext E11
        have g_b11 : n0 ≤ b11 := Nat.le_trans Z0 (Nat.le_of_eq g11.symm)
        have Z11 : n0 ≤ h11.size := Nat.le_trans Z0 E11.1
        have ko_b11 : h0.size ≤ b11 := Nat.le_trans K0.1 (Nat.le_of_eq g11.symm)
        have V11_b11 : Arv Z h11 b11 k11 .int (1 : Int32) [(.int (0 : Int32))] (.int (0 : Int32)) := (Arv.new A11 (by decide)).pad (pad_rep [] (.int (0 : Int32)) 1)
        show own_G p e below s _ _ _ (T11.setTop (mkF m 21 #[.val (.int x0), .val (.int x1), .val (.int x2)] [(.ref b11)]))
        refine own_go (fun _ kk_ => XS.dup X11.here hx rfl (hb hby d1_21) rfl rfl kk_) ?_
        show own_G p e below s _ _ _ (T11.setTop (mkF m 22 #[.val (.int x0), .val (.int x1), .val (.int x2)] [(.ref b11), (.ref b11)]))
        refine own_go (fun _ kk_ => XS.iconst X11.here hx rfl (hb hby d1_22) kk_) ?_
        show own_G p e below s _ _ _ (T11.setTop (mkF m 23 #[.val (.int x0), .val (.int x1), .val (.int x2)] [(.int (0 : Int32)), (.ref b11), (.ref b11)]))
        refine own_go (fun _ kk_ => XS.iloadN X11.here hx rfl (hb hby d1_23) rfl kk_) ?_
        show own_G p e below s _ _ _ (T11.setTop (mkF m 24 #[.val (.int x0), .val (.int x1), .val (.int x2)] [(.int x0), (.int (0 : Int32)), (.ref b11), (.ref b11)]))
        have Vc12 := V11_b11
        obtain ⟨cl12, Ar12, q12, S12, M12, H12, G12⟩ := Vc12
        have hin12 := inb_of (j := (0 : Int32)) S12 ⟨(by decide), (by decide)⟩
        obtain ⟨T13, h13, X13, e13, W13, st13⟩ := stI X11 hx hZ e11 Ar12 (j := (0 : Int32)) hin12 (g := (mkF m 24 #[.val (.int x0), .val (.int x1), .val (.int x2)] [(.int x0), (.int (0 : Int32)), (.ref b11), (.ref b11)])) rfl rfl (hb hby d1_24)
        refine own_go st13 ?_
        have K13_ := K11_.wr W13 (Or.inr ko_b11)
        have V13_b11 : Arv Z h13 b11 k11 .int (1 : Int32) [(.int x0)] (.int (0 : Int32)) := Arv.set Ar12 q12 S12 M12 H12 G12 rfl W13 0 rfl (Nat.le_of_ble_eq_true rfl)
        have Z13 : n0 ≤ h13.size := by rw [W13.size]; exact Z11
        have N13 := Fr.snoc X13 N0 g_b11
        show own_G p e below s _ _ _ (T13.setTop (mkF m 25 #[.val (.int x0), .val (.int x1), .val (.int x2)] [(.ref b11)]))
        exact own_retA (ht := rfl) (hv := rfl) X13 hx Bd.returns (BodyLoose.notSynchronized Bd) (hb hby d1_25) e13 ⟨_, _, [x0], rfl, N13, Z13, K13_, ko_b11, V13_b11, (List.pairwise_singleton _ _), (Nat.le_of_ble_eq_true rfl)⟩ (by decide) (by decide)
  · show own_G p e below s _ _ _ (s₁.setTop (mkF m 4 #[.val (.int x0), .val (.int x1), .val (.int x2)] []))
    refine own_go (fun _ kk_ => XS.iconst X0.here hx rfl (hb hby d1_4) kk_) ?_
    show own_G p e below s _ _ _ (s₁.setTop (mkF m 5 #[.val (.int x0), .val (.int x1), .val (.int x2)] [(.int (0 : Int32))]))
    obtain ⟨T14, h14, k14, X14, e14, E14, A14, st14⟩ := newP X0 hx hZ (hw _ (List.mem_of_getElem? (i := 4) rfl)) e0 (g := (mkF m 5 #[.val (.int x0), .val (.int x1), .val (.int x2)] [(.int (0 : Int32))])) rfl (hb hby d1_5) rfl (by decide) (cap := 0) (by decide) (by decide) (by decide) (by decide)
    obtain ⟨b14, g14⟩ : ∃ z, z = h0.size := ⟨_, rfl⟩
    rw [← g14] at A14 st14
    refine own_go st14 ?_
    have K14_ := K0.ext E14
    have g_b14 : n0 ≤ b14 := Nat.le_trans Z0 (Nat.le_of_eq g14.symm)
    have Z14 : n0 ≤ h14.size := Nat.le_trans Z0 E14.1
    have ko_b14 : h0.size ≤ b14 := Nat.le_trans K0.1 (Nat.le_of_eq g14.symm)
    have V14_b14 : Arv Z h14 b14 k14 .int (0 : Int32) [] (.int (0 : Int32)) := (Arv.new A14 (by decide)).pad (pad_rep [] (.int (0 : Int32)) 0)
    show own_G p e below s _ _ _ (T14.setTop (mkF m 7 #[.val (.int x0), .val (.int x1), .val (.int x2)] [(.ref b14)]))
    exact own_retA (ht := rfl) (hv := rfl) X14 hx Bd.returns (BodyLoose.notSynchronized Bd) (hb hby d1_7) e14 ⟨_, _, [], rfl, N0, Z14, K14_, ko_b14, V14_b14, List.Pairwise.nil, (Nat.le_of_ble_eq_true rfl)⟩ (by decide) (by decide)
theorem own_cmin {NN k : Nat} (hN : NN ≤ 4) (hk : k ≤ NN) : own_min (Int32.ofNat NN) (Int32.ofNat k) = Int32.ofNat k := by
  rcases Nat.lt_or_eq_of_le hk with q | q
  · exact own_min_r ((own_lt (by omega) (by omega)).mpr q)
  · rw [q]; exact own_min_e rfl
theorem d3_0 : decode jdk_65_method_123_code 0 = .ok (.iload_n 1, 1) := by decide +kernel
theorem d3_1 : decode jdk_65_method_123_code 1 = .ok (.aload_n 0, 1) := by decide +kernel
theorem d3_2 : decode jdk_65_method_123_code 2 = .ok (.arraylength, 1) := by decide +kernel
theorem d3_3 : decode jdk_65_method_123_code 3 = .ok (.if_icmp .ne 11, 3) := by decide +kernel
theorem d3_6 : decode jdk_65_method_123_code 6 = .ok (.aload_n 0, 1) := by decide +kernel
theorem d3_7 : decode jdk_65_method_123_code 7 = .ok (.invokevirtual 316, 3) := by decide +kernel
theorem d3_10 : decode jdk_65_method_123_code 10 = .ok (.checkcast 317, 3) := by decide +kernel
theorem d3_13 : decode jdk_65_method_123_code 13 = .ok (.areturn, 1) := by decide +kernel
theorem d3_14 : decode jdk_65_method_123_code 14 = .ok (.iload_n 1, 1) := by decide +kernel
theorem d3_15 : decode jdk_65_method_123_code 15 = .ok (.newarray .int, 2) := by decide +kernel
theorem d3_17 : decode jdk_65_method_123_code 17 = .ok (.astore_n 2, 1) := by decide +kernel
theorem d3_18 : decode jdk_65_method_123_code 18 = .ok (.aload_n 0, 1) := by decide +kernel
theorem d3_19 : decode jdk_65_method_123_code 19 = .ok (.iconst 0, 1) := by decide +kernel
theorem d3_20 : decode jdk_65_method_123_code 20 = .ok (.aload_n 2, 1) := by decide +kernel
theorem d3_21 : decode jdk_65_method_123_code 21 = .ok (.iconst 0, 1) := by decide +kernel
theorem d3_22 : decode jdk_65_method_123_code 22 = .ok (.aload_n 0, 1) := by decide +kernel
theorem d3_23 : decode jdk_65_method_123_code 23 = .ok (.arraylength, 1) := by decide +kernel
theorem d3_24 : decode jdk_65_method_123_code 24 = .ok (.iload_n 1, 1) := by decide +kernel
theorem d3_25 : decode jdk_65_method_123_code 25 = .ok (.invokestatic 304, 3) := by decide +kernel
theorem d3_28 : decode jdk_65_method_123_code 28 = .ok (.invokestatic 150, 3) := by decide +kernel
theorem d3_31 : decode jdk_65_method_123_code 31 = .ok (.aload_n 2, 1) := by decide +kernel
theorem d3_32 : decode jdk_65_method_123_code 32 = .ok (.areturn, 1) := by decide +kernel
theorem pn_1 : plainName "java/util/Arrays" = true := by first | (simp [plainName, overriddenIn]; done) | decide +kernel
theorem ef_rmCp (m : MethodId) (x0 : Addr) (x1 : Int32) : entryFrame m #[(.ref x0), (.int x1)] 3 = mkF m 0 #[.val (.ref x0), .val (.int x1), .unset] [] := by first | (simp [entryFrame, mkF, argsToLocals, Value.category]; done) | rfl
def Q_rmCp (Z : State) (a : Addr) (ka : ClassId) (NN : Nat) (vs : List Value) (h0 : Heap) (n0 : Nat) : Option Value → Heap → List Loc → Prop := fun v h L => ∃ (b : Addr) (kb : ClassId), v = some (.ref b) ∧ Fr n0 L ∧ n0 ≤ h.size ∧ Keep h0 h [] ∧ Arv Z h b kb .int (Int32.ofNat vs.length) vs (.int (0 : Int32))
set_option maxRecDepth 65536 in
set_option maxHeartbeats 40000000 in
theorem rmCp (l : Launch) (Z : State) (a0 : Array Value) (hw : ∀ d ∈ tables_1, d.before a0 Z = true) (ws : List Jvm.Cond) (a : Addr) (ka : ClassId) (NN : Nat) (vs : List Value) (h0 : Heap) (n0 : Nat) (Z0 : n0 ≤ h0.size) (V_a : Arv Z h0 a ka .int (Int32.ofNat NN) vs (.int (0 : Int32))) (E_a : Exa Z h0 a "[I") (hN : NN ≤ 4) (hk : vs.length ≤ NN) :
    MetFree l (⟨"java/util/Arrays", "copyOf", "([II)[I"⟩ : MethodName) (head1 (Jvm.Cond.code (⟨"java/util/Arrays", "copyOf", "([II)[I"⟩ : MethodName) jdk_65_method_123_code 3 (some (.array .int)) :: ws) ({ frames := 1, cells := 1, slots := 4, locals := 40 } : Room)) (fun as_ U => as_ = #[(.ref a), (.int (Int32.ofNat vs.length))] ∧ Z.Warmed39 U.vm ∧ U.heap = h0) (fun _ _ _ _ _ => True) (fun _ U o U' => ∃ v L, o = .returned v ∧ (Q_rmCp Z a ka NN vs h0 n0) v U'.heap L ∧ FrameEnd U o U' L ({ frames := 1, cells := 1, slots := 4, locals := 40 } : Room).cells ({ frames := 1, cells := 1, slots := 4, locals := 40 } : Room).slots) := by
  refine MetFree.of_bodySF (plainFor_of_name pn_1) hisR ?_
  intro p e s m args below meth c s₁ Bd hml0 hP hK
  obtain ⟨rfl, hZ, hh⟩ := hP
  have hx := Bd.exec
  have hby := Bd.bytes
  have hml : c.maxLocals = 3 := hml0
  have hown : s.vm.findClass "java/util/Arrays" = some m.cls := findClass_of_methodNamed Bd.named
  have hnm := (name_of_methodNamed Bd.named Bd.method).1
  have X0 : Stand p l e ({ frames := 1, cells := 1, slots := 4, locals := 40 } : Room) s m #[(.ref a), (.int (Int32.ofNat vs.length))] below meth c s₁ [] 0 0 := Stand.of_body Bd
  have e0 : s₁.heap = h0 := by rw [← hh, Bd.state]; rfl
  have N0 := Fr.nil n0
  show own_G p e below s (Q_rmCp Z a ka NN vs h0 n0) ({ frames := 1, cells := 1, slots := 4, locals := 40 } : Room).cells ({ frames := 1, cells := 1, slots := 4, locals := 40 } : Room).slots (s₁.setTop (entryFrame m #[(.ref a), (.int (Int32.ofNat vs.length))] 3))
  rw [ef_rmCp m a (Int32.ofNat vs.length)]
  have K0 : Keep h0 h0 [] := Keep.refl _ _
  show own_G p e below s _ _ _ (s₁.setTop (mkF m 0 #[.val (.ref a), .val (.int (Int32.ofNat vs.length)), .unset] []))
  refine own_go (fun _ kk_ => XS.iloadN X0.here hx rfl (hb hby d3_0) rfl kk_) ?_
  show own_G p e below s _ _ _ (s₁.setTop (mkF m 1 #[.val (.ref a), .val (.int (Int32.ofNat vs.length)), .unset] [(.int (Int32.ofNat vs.length))]))
  refine own_go (fun _ kk_ => XS.aloadN X0.here hx rfl (hb hby d3_1) rfl rfl kk_) ?_
  show own_G p e below s _ _ _ (s₁.setTop (mkF m 2 #[.val (.ref a), .val (.int (Int32.ofNat vs.length)), .unset] [(.ref a), (.int (Int32.ofNat vs.length))]))
  have Vc1 := V_a
  obtain ⟨cl1, Ar1, q1, S1, M1, H1, G1⟩ := Vc1
  refine own_go (X0.arraylength hx (cell := cl1) (by rw [e0]; exact Ar1.1) (State.isArrayOf_alike hZ.alike Ar1.2.1) (g := (mkF m 2 #[.val (.ref a), .val (.int (Int32.ofNat vs.length)), .unset] [(.ref a), (.int (Int32.ofNat vs.length))])) rfl (rest := [(.int (Int32.ofNat vs.length))]) rfl (hb hby d3_2)) ?_
  rw [len_of S1 M1]
  show own_G p e below s _ _ _ (s₁.setTop (mkF m 3 #[.val (.ref a), .val (.int (Int32.ofNat vs.length)), .unset] [(.int (Int32.ofNat NN)), (.int (Int32.ofNat vs.length))]))
  refine own_ic_ne X0 hx (pc := 3) (pc' := 14) (hb hby d3_3) (by decide) (by decide) (fun hc3 => ?_) (fun hc3 => ?_)
  · show own_G p e below s _ _ _ (s₁.setTop (mkF m 14 #[.val (.ref a), .val (.int (Int32.ofNat vs.length)), .unset] []))
    refine own_go (fun _ kk_ => XS.iloadN X0.here hx rfl (hb hby d3_14) rfl kk_) ?_
    show own_G p e below s _ _ _ (s₁.setTop (mkF m 15 #[.val (.ref a), .val (.int (Int32.ofNat vs.length)), .unset] [(.int (Int32.ofNat vs.length))]))
    obtain ⟨T2, h2, k2, X2, e2, E2, A2, st2⟩ := newP X0 hx hZ (hw _ (List.mem_of_getElem? (i := 4) rfl)) e0 (g := (mkF m 15 #[.val (.ref a), .val (.int (Int32.ofNat vs.length)), .unset] [(.int (Int32.ofNat vs.length))])) rfl (hb hby d3_15) rfl (own_nn (by omega)) (cap := 4) (by rw [own_nat (by omega)]; omega) (by decide) (by decide) (by decide)
    obtain ⟨b2, g2⟩ : ∃ z, z = h0.size := ⟨_, rfl⟩
    rw [← g2] at A2 st2
    refine own_go st2 ?_
    have K2_ := K0.ext E2
    have V2_a := V_a.ext E2
    have E2_a := E_a.ext E2
    have ne_a_b2 : a ≠ b2 := Nat.ne_of_lt (Nat.lt_of_lt_of_le V_a.lt (Nat.le_of_eq g2.symm))
    have ne_a_b2 : a ≠ b2 := Nat.ne_of_lt (Nat.lt_of_lt_of_le E_a.lt (Nat.le_of_eq g2.symm))
    have g_b2 : n0 ≤ b2 := Nat.le_trans Z0 (Nat.le_of_eq g2.symm)
    have Z2 : n0 ≤ h2.size := Nat.le_trans Z0 E2.1
    have ko_b2 : h0.size ≤ b2 := Nat.le_trans K0.1 (Nat.le_of_eq g2.symm)
    have V2_b2 : Arv Z h2 b2 k2 .int (Int32.ofNat vs.length) (List.replicate vs.length (.int (0 : Int32))) (.int (0 : Int32)) := (Arv.new A2 (own_nn (by omega))).pad (pad_rep [] (.int (0 : Int32)) vs.length)
    show own_G p e below s _ _ _ (T2.setTop (mkF m 17 #[.val (.ref a), .val (.int (Int32.ofNat vs.length)), .unset] [(.ref b2)]))
    refine own_go (fun _ kk_ => XS.astoreN X2.here hx rfl (hb hby d3_17) rfl rfl (l' := #[.val (.ref a), .val (.int (Int32.ofNat vs.length)), .val (.ref b2)]) rfl kk_) ?_
    show own_G p e below s _ _ _ (T2.setTop (mkF m 18 #[.val (.ref a), .val (.int (Int32.ofNat vs.length)), .val (.ref b2)] []))
    refine own_go (fun _ kk_ => XS.aloadN X2.here hx rfl (hb hby d3_18) rfl rfl kk_) ?_
    show own_G p e below s _ _ _ (T2.setTop (mkF m 19 #[.val (.ref a), .val (.int (Int32.ofNat vs.length)), .val (.ref b2)] [(.ref a)]))
    refine own_go (fun _ kk_ => XS.iconst X2.here hx rfl (hb hby d3_19) kk_) ?_
    show own_G p e below s _ _ _ (T2.setTop (mkF m 20 #[.val (.ref a), .val (.int (Int32.ofNat vs.length)), .val (.ref b2)] [(.int (0 : Int32)), (.ref a)]))
    refine own_go (fun _ kk_ => XS.aloadN X2.here hx rfl (hb hby d3_20) rfl rfl kk_) ?_
    show own_G p e below s _ _ _ (T2.setTop (mkF m 21 #[.val (.ref a), .val (.int (Int32.ofNat vs.length)), .val (.ref b2)] [(.ref b2), (.int (0 : Int32)), (.ref a)]))
    refine own_go (fun _ kk_ => XS.iconst X2.here hx rfl (hb hby d3_21) kk_) ?_
    show own_G p e below s _ _ _ (T2.setTop (mkF m 22 #[.val (.ref a), .val (.int (Int32.ofNat vs.length)), .val (.ref b2)] [(.int (0 : Int32)), (.ref b2), (.int (0 : Int32)), (.ref a)]))
    refine own_go (fun _ kk_ => XS.aloadN X2.here hx rfl (hb hby d3_22) rfl rfl kk_) ?_
    show own_G p e below s _ _ _ (T2.setTop (mkF m 23 #[.val (.ref a), .val (.int (Int32.ofNat vs.length)), .val (.ref b2)] [(.ref a), (.int (0 : Int32)), (.ref b2), (.int (0 : Int32)), (.ref a)]))
    have Vc3 := V2_a
    obtain ⟨cl3, Ar3, q3, S3, M3, H3, G3⟩ := Vc3
    refine own_go (X2.arraylength hx (cell := cl3) (by rw [e2]; exact Ar3.1) (State.isArrayOf_alike hZ.alike Ar3.2.1) (g := (mkF m 23 #[.val (.ref a), .val (.int (Int32.ofNat vs.length)), .val (.ref b2)] [(.ref a), (.int (0 : Int32)), (.ref b2), (.int (0 : Int32)), (.ref a)])) rfl (rest := [(.int (0 : Int32)), (.ref b2), (.int (0 : Int32)), (.ref a)]) rfl (hb hby d3_23)) ?_
    rw [len_of S3 M3]
    show own_G p e below s _ _ _ (T2.setTop (mkF m 24 #[.val (.ref a), .val (.int (Int32.ofNat vs.length)), .val (.ref b2)] [(.int (Int32.ofNat NN)), (.int (0 : Int32)), (.ref b2), (.int (0 : Int32)), (.ref a)]))
    refine own_go (fun _ kk_ => XS.iloadN X2.here hx rfl (hb hby d3_24) rfl kk_) ?_
    show own_G p e below s _ _ _ (T2.setTop (mkF m 25 #[.val (.ref a), .val (.int (Int32.ofNat vs.length)), .val (.ref b2)] [(.int (Int32.ofNat vs.length)), (.int (Int32.ofNat NN)), (.int (0 : Int32)), (.ref b2), (.int (0 : Int32)), (.ref a)]))
    obtain ⟨_, _, ⟨T4, L4, k4, n4⟩, -, X4, ⟨Lc4, hQ4, l4, y4, z4⟩, st4⟩ := Jvm.LawKit.callS X2 hx (y := (⟨"java/lang/Math", "min", "(II)I"⟩ : MethodName)) hown (mvT hZ (hw _ (List.mem_of_getElem? (i := 43) rfl))) (mvT hZ (hw _ (List.mem_of_getElem? (i := 33) rfl))) (mvT hZ (hw _ (List.mem_of_getElem? (i := 34) rfl))) (mvT hZ (hw _ (List.mem_of_getElem? (i := 35) rfl))) (by decide) (backOf (W := 4) (rmMin l Z a0 hw [] (Int32.ofNat NN) (Int32.ofNat vs.length) h2 n0 Z2) hZ (hw _ (List.mem_of_getElem? (i := 35) rfl)) (hw _ (List.mem_of_getElem? (i := 34) rfl)) (by decide) (by decide)) (g := (mkF m 25 #[.val (.ref a), .val (.int (Int32.ofNat vs.length)), .val (.ref b2)] [(.int (Int32.ofNat vs.length)), (.int (Int32.ofNat NN)), (.int (0 : Int32)), (.ref b2), (.int (0 : Int32)), (.ref a)])) rfl (by rw [hml]; rfl) (argsL := [(.int (Int32.ofNat NN)), (.int (Int32.ofNat vs.length))]) (rest := [(.int (0 : Int32)), (.ref b2), (.int (0 : Int32)), (.ref a)]) (lenOf pd_0 rfl) rfl (by show 2 * 0 + _ ≤ _; exact Nat.le_of_eq rfl) (hb hby d3_25) (fun _ _ => ⟨rfl, e2, (by decide : 1 + 0 ≤ _), (by decide : 4 + 0 ≤ _)⟩)
    dsimp only [Pt.U, Pt.locs, Pt.cells, Pt.slots] at X4 l4 y4 z4 st4 hQ4
    subst l4 y4 z4
    obtain ⟨rfl, N4q, e4⟩ := hQ4
    have N4 := Fr.app N0 N4q
    refine own_go st4 ?_
    show own_G p e below s _ _ _ (T4.setTop (mkF m 28 #[.val (.ref a), .val (.int (Int32.ofNat vs.length)), .val (.ref b2)] [(.int (own_min (Int32.ofNat NN) (Int32.ofNat vs.length))), (.int (0 : Int32)), (.ref b2), (.int (0 : Int32)), (.ref a)]))
    rw [own_cmin hN hk]
    show own_G p e below s _ _ _ (T4.setTop (mkF m 28 #[.val (.ref a), .val (.int (Int32.ofNat vs.length)), .val (.ref b2)] [(.int (Int32.ofNat vs.length)), (.int (0 : Int32)), (.ref b2), (.int (0 : Int32)), (.ref a)]))
    obtain ⟨T5, h5, L5, X5, e5, N5, K5q, V5, st5⟩ := cpA X4 hx hZ hown (hw _ (List.mem_of_getElem? (i := 44) rfl)) (hw _ (List.mem_of_getElem? (i := 47) rfl)) (hw _ (List.mem_of_getElem? (i := 45) rfl)) (hw _ (List.mem_of_getElem? (i := 46) rfl)) e4 V2_a V2_b2 (Or.inl ⟨rfl, rfl⟩) (sp := (0 : Int32)) (dp := (0 : Int32)) (nn := (Int32.ofNat vs.length)) (by decide) (by decide) (own_nn (by omega)) (by rw [own_nat (by omega), own_nat (by omega)]; show 0 + vs.length ≤ _; omega) (by rw [own_nat (by omega)]; show 0 + vs.length ≤ _; omega) rfl (by rw [own_nat (by omega), List.length_replicate]; show 0 + vs.length ≤ _; omega) N4 g_b2 (g := (mkF m 28 #[.val (.ref a), .val (.int (Int32.ofNat vs.length)), .val (.ref b2)] [(.int (Int32.ofNat vs.length)), (.int (0 : Int32)), (.ref b2), (.int (0 : Int32)), (.ref a)])) rfl (by rw [hml]; rfl) rfl (hb hby d3_28) (by decide) (W := 0) (by show 2 * 0 + _ ≤ _; exact Nat.le_of_eq rfl) (by decide)
    refine own_go st5 ?_
    rw [own_nat (by omega)] at V5
    have V5b : Arv Z h5 b2 k2 .int (Int32.ofNat vs.length) vs (.int (0 : Int32)) := by
      have q : (List.replicate vs.length (Value.int (0 : Int32))).take (0 : Int32).toNatClampNeg ++ (List.range vs.length).map (fun i => vs.getD ((0 : Int32).toNatClampNeg + i) (Value.int (0 : Int32))) ++ (List.replicate vs.length (Value.int (0 : Int32))).drop ((0 : Int32).toNatClampNeg + vs.length) = vs := by
        show [] ++ (List.range vs.length).map (fun i => vs.getD (0 + i) (Value.int (0 : Int32))) ++ (List.replicate vs.length (Value.int (0 : Int32))).drop (0 + vs.length) = vs
        rw [own_cp, List.drop_eq_nil_of_le (by simp), List.append_nil, List.nil_append]
      rw [q] at V5
      exact V5
    have K5 : Keep h0 h5 [] := K2_.trans K5q (allS (Or.inr ko_b2) all0)
    have Z5 : n0 ≤ h5.size := Nat.le_trans Z2 K5q.1
    show own_G p e below s _ _ _ (T5.setTop (mkF m 31 #[.val (.ref a), .val (.int (Int32.ofNat vs.length)), .val (.ref b2)] []))
    refine own_go (fun _ kk_ => XS.aloadN X5.here hx rfl (hb hby d3_31) rfl rfl kk_) ?_
    show own_G p e below s _ _ _ (T5.setTop (mkF m 32 #[.val (.ref a), .val (.int (Int32.ofNat vs.length)), .val (.ref b2)] [(.ref b2)]))
    exact own_retA (ht := rfl) (hv := rfl) X5 hx Bd.returns (BodyLoose.notSynchronized Bd) (hb hby d3_32) e5 ⟨_, _, rfl, N5, Z5, K5, V5b⟩ (by decide) (by decide)
  · show own_G p e below s _ _ _ (s₁.setTop (mkF m 6 #[.val (.ref a), .val (.int (Int32.ofNat vs.length)), .unset] []))
    refine own_go (fun _ kk_ => XS.aloadN X0.here hx rfl (hb hby d3_6) rfl rfl kk_) ?_
    show own_G p e below s _ _ _ (s₁.setTop (mkF m 7 #[.val (.ref a), .val (.int (Int32.ofNat vs.length)), .unset] [(.ref a)]))
    obtain ⟨T6, h6, X6, e6, E6, A6, Ex6, st6⟩ := cloneH X0 hx hZ hown (hw _ (List.mem_of_getElem? (i := 13) rfl)) (hw _ (List.mem_of_getElem? (i := 14) rfl)) (hw _ (List.mem_of_getElem? (i := 18) rfl)) (hw _ (List.mem_of_getElem? (i := 16) rfl)) (hw _ (List.mem_of_getElem? (i := 17) rfl)) (hw _ (List.mem_of_getElem? (i := 19) rfl)) e0 (V_a.arh) E_a (g := (mkF m 7 #[.val (.ref a), .val (.int (Int32.ofNat vs.length)), .unset] [(.ref a)])) rfl (by rw [hml]; rfl) rfl (hb hby d3_7) (by decide) (W := 0) (cap := 4) (by show 2 * 0 + _ ≤ _; exact Nat.le_of_eq rfl) (by decide) (by rw [own_nat (by omega)]; exact hN) (by decide) (by decide)
    obtain ⟨b6, g6⟩ : ∃ z, z = h0.size := ⟨_, rfl⟩
    rw [← g6] at A6 Ex6 st6
    refine own_go st6 ?_
    have K6_ := K0.ext E6
    have V6_a := V_a.ext E6
    have E6_a := E_a.ext E6
    have ne_a_b6 : a ≠ b6 := Nat.ne_of_lt (Nat.lt_of_lt_of_le V_a.lt (Nat.le_of_eq g6.symm))
    have ne_a_b6 : a ≠ b6 := Nat.ne_of_lt (Nat.lt_of_lt_of_le E_a.lt (Nat.le_of_eq g6.symm))
    have g_b6 : n0 ≤ b6 := Nat.le_trans Z0 (Nat.le_of_eq g6.symm)
    have Z6 : n0 ≤ h6.size := Nat.le_trans Z0 E6.1
    have ko_b6 : h0.size ≤ b6 := Nat.le_trans K0.1 (Nat.le_of_eq g6.symm)
    have V6 : Arv Z h6 b6 ka .int (Int32.ofNat NN) vs (.int (0 : Int32)) := A6
    rw [← hc3] at V6
    show own_G p e below s _ _ _ (T6.setTop (mkF m 10 #[.val (.ref a), .val (.int (Int32.ofNat vs.length)), .unset] [(.ref b6)]))
    obtain ⟨T7, X7, e7, st7⟩ := castY X6 hx hZ hown (hw _ (List.mem_of_getElem? (i := 20) rfl)) e6 (Ins.self Ex6) (g := (mkF m 10 #[.val (.ref a), .val (.int (Int32.ofNat vs.length)), .unset] [(.ref b6)])) rfl rfl (hb hby d3_10)
    refine own_go st7 ?_
    show own_G p e below s _ _ _ (T7.setTop (mkF m 13 #[.val (.ref a), .val (.int (Int32.ofNat vs.length)), .unset] [(.ref b6)]))
    exact own_retA (ht := rfl) (hv := rfl) X7 hx Bd.returns (BodyLoose.notSynchronized Bd) (hb hby d3_13) e7 ⟨_, _, rfl, N0, Z6, K6_, V6⟩ (by decide) (by decide)
theorem d2_0 : decode prog_31_method_14_code 0 = .ok (.aload_n 0, 1) := by decide +kernel
theorem d2_1 : decode prog_31_method_14_code 1 = .ok (.arraylength, 1) := by decide +kernel
theorem d2_2 : decode prog_31_method_14_code 2 = .ok (.aload_n 1, 1) := by decide +kernel
theorem d2_3 : decode prog_31_method_14_code 3 = .ok (.arraylength, 1) := by decide +kernel
theorem d2_4 : decode prog_31_method_14_code 4 = .ok (.iadd, 1) := by decide +kernel
theorem d2_5 : decode prog_31_method_14_code 5 = .ok (.newarray .int, 2) := by decide +kernel
theorem d2_7 : decode prog_31_method_14_code 7 = .ok (.astore_n 2, 1) := by decide +kernel
theorem d2_8 : decode prog_31_method_14_code 8 = .ok (.iconst 0, 1) := by decide +kernel
theorem d2_9 : decode prog_31_method_14_code 9 = .ok (.istore_n 3, 1) := by decide +kernel
theorem d2_10 : decode prog_31_method_14_code 10 = .ok (.iconst 0, 1) := by decide +kernel
theorem d2_11 : decode prog_31_method_14_code 11 = .ok (.istore 4, 2) := by decide +kernel
theorem d2_13 : decode prog_31_method_14_code 13 = .ok (.iconst 0, 1) := by decide +kernel
theorem d2_14 : decode prog_31_method_14_code 14 = .ok (.istore 5, 2) := by decide +kernel
theorem d2_16 : decode prog_31_method_14_code 16 = .ok (.iload_n 3, 1) := by decide +kernel
theorem d2_17 : decode prog_31_method_14_code 17 = .ok (.aload_n 0, 1) := by decide +kernel
theorem d2_18 : decode prog_31_method_14_code 18 = .ok (.arraylength, 1) := by decide +kernel
theorem d2_19 : decode prog_31_method_14_code 19 = .ok (.if_icmp .lt 10, 3) := by decide +kernel
theorem d2_22 : decode prog_31_method_14_code 22 = .ok (.iload 4, 2) := by decide +kernel
theorem d2_24 : decode prog_31_method_14_code 24 = .ok (.aload_n 1, 1) := by decide +kernel
theorem d2_25 : decode prog_31_method_14_code 25 = .ok (.arraylength, 1) := by decide +kernel
theorem d2_26 : decode prog_31_method_14_code 26 = .ok (.if_icmp .ge 90, 3) := by decide +kernel
theorem d2_29 : decode prog_31_method_14_code 29 = .ok (.iload_n 3, 1) := by decide +kernel
theorem d2_30 : decode prog_31_method_14_code 30 = .ok (.aload_n 0, 1) := by decide +kernel
theorem d2_31 : decode prog_31_method_14_code 31 = .ok (.arraylength, 1) := by decide +kernel
theorem d2_32 : decode prog_31_method_14_code 32 = .ok (.if_icmp .ge 9, 3) := by decide +kernel
theorem d2_35 : decode prog_31_method_14_code 35 = .ok (.aload_n 0, 1) := by decide +kernel
theorem d2_36 : decode prog_31_method_14_code 36 = .ok (.iload_n 3, 1) := by decide +kernel
theorem d2_37 : decode prog_31_method_14_code 37 = .ok (.iaload, 1) := by decide +kernel
theorem d2_38 : decode prog_31_method_14_code 38 = .ok (.goto 5, 3) := by decide +kernel
theorem d2_41 : decode prog_31_method_14_code 41 = .ok (.ldc 139, 2) := by decide +kernel
theorem d2_43 : decode prog_31_method_14_code 43 = .ok (.istore 6, 2) := by decide +kernel
theorem d2_45 : decode prog_31_method_14_code 45 = .ok (.iload 4, 2) := by decide +kernel
theorem d2_47 : decode prog_31_method_14_code 47 = .ok (.aload_n 1, 1) := by decide +kernel
theorem d2_48 : decode prog_31_method_14_code 48 = .ok (.arraylength, 1) := by decide +kernel
theorem d2_49 : decode prog_31_method_14_code 49 = .ok (.if_icmp .ge 10, 3) := by decide +kernel
theorem d2_52 : decode prog_31_method_14_code 52 = .ok (.aload_n 1, 1) := by decide +kernel
theorem d2_53 : decode prog_31_method_14_code 53 = .ok (.iload 4, 2) := by decide +kernel
theorem d2_55 : decode prog_31_method_14_code 55 = .ok (.iaload, 1) := by decide +kernel
theorem d2_56 : decode prog_31_method_14_code 56 = .ok (.goto 5, 3) := by decide +kernel
theorem d2_59 : decode prog_31_method_14_code 59 = .ok (.ldc 139, 2) := by decide +kernel
theorem d2_61 : decode prog_31_method_14_code 61 = .ok (.istore 7, 2) := by decide +kernel
theorem d2_63 : decode prog_31_method_14_code 63 = .ok (.iload 6, 2) := by decide +kernel
theorem d2_65 : decode prog_31_method_14_code 65 = .ok (.iload 7, 2) := by decide +kernel
theorem d2_67 : decode prog_31_method_14_code 67 = .ok (.invokestatic 140, 3) := by decide +kernel
theorem d2_70 : decode prog_31_method_14_code 70 = .ok (.istore 8, 2) := by decide +kernel
theorem d2_72 : decode prog_31_method_14_code 72 = .ok (.aload_n 2, 1) := by decide +kernel
theorem d2_73 : decode prog_31_method_14_code 73 = .ok (.iload 5, 2) := by decide +kernel
theorem d2_75 : decode prog_31_method_14_code 75 = .ok (.iinc 5 1, 3) := by decide +kernel
theorem d2_78 : decode prog_31_method_14_code 78 = .ok (.iload 8, 2) := by decide +kernel
theorem d2_80 : decode prog_31_method_14_code 80 = .ok (.iastore, 1) := by decide +kernel
theorem d2_81 : decode prog_31_method_14_code 81 = .ok (.iload_n 3, 1) := by decide +kernel
theorem d2_82 : decode prog_31_method_14_code 82 = .ok (.iload 6, 2) := by decide +kernel
theorem d2_84 : decode prog_31_method_14_code 84 = .ok (.iload 8, 2) := by decide +kernel
theorem d2_86 : decode prog_31_method_14_code 86 = .ok (.if_icmp .ne 7, 3) := by decide +kernel
theorem d2_89 : decode prog_31_method_14_code 89 = .ok (.iconst 1, 1) := by decide +kernel
theorem d2_90 : decode prog_31_method_14_code 90 = .ok (.goto 4, 3) := by decide +kernel
theorem d2_93 : decode prog_31_method_14_code 93 = .ok (.iconst 0, 1) := by decide +kernel
theorem d2_94 : decode prog_31_method_14_code 94 = .ok (.iadd, 1) := by decide +kernel
theorem d2_95 : decode prog_31_method_14_code 95 = .ok (.istore_n 3, 1) := by decide +kernel
theorem d2_96 : decode prog_31_method_14_code 96 = .ok (.iload 4, 2) := by decide +kernel
theorem d2_98 : decode prog_31_method_14_code 98 = .ok (.iload 7, 2) := by decide +kernel
theorem d2_100 : decode prog_31_method_14_code 100 = .ok (.iload 8, 2) := by decide +kernel
theorem d2_102 : decode prog_31_method_14_code 102 = .ok (.if_icmp .ne 7, 3) := by decide +kernel
theorem d2_105 : decode prog_31_method_14_code 105 = .ok (.iconst 1, 1) := by decide +kernel
theorem d2_106 : decode prog_31_method_14_code 106 = .ok (.goto 4, 3) := by decide +kernel
theorem d2_109 : decode prog_31_method_14_code 109 = .ok (.iconst 0, 1) := by decide +kernel
theorem d2_110 : decode prog_31_method_14_code 110 = .ok (.iadd, 1) := by decide +kernel
theorem d2_111 : decode prog_31_method_14_code 111 = .ok (.istore 4, 2) := by decide +kernel
theorem d2_113 : decode prog_31_method_14_code 113 = .ok (.goto (-97), 3) := by decide +kernel
theorem d2_116 : decode prog_31_method_14_code 116 = .ok (.aload_n 2, 1) := by decide +kernel
theorem d2_117 : decode prog_31_method_14_code 117 = .ok (.iload 5, 2) := by decide +kernel
theorem d2_119 : decode prog_31_method_14_code 119 = .ok (.invokestatic 45, 3) := by decide +kernel
theorem d2_122 : decode prog_31_method_14_code 122 = .ok (.areturn, 1) := by decide +kernel
theorem pn_2 : plainName "com/example/petri_net_analyzer/petrinetanalyzer/SparseVector" = true := by first | (simp [plainName, overriddenIn]; done) | decide +kernel
theorem pd_1 : parseMethodDescriptor "([II)[I" = some ⟨[(.array .int), .int], some (.array .int)⟩ := by decide +kernel
theorem ef_rmU (m : MethodId) (x0 : Addr) (x1 : Addr) : entryFrame m #[(.ref x0), (.ref x1)] 9 = mkF m 0 #[.val (.ref x0), .val (.ref x1), .unset, .unset, .unset, .unset, .unset, .unset, .unset] [] := by first | (simp [entryFrame, mkF, argsToLocals, Value.category]; done) | rfl
def Q_rmU (Z : State) (a b : Addr) (ka kb : ClassId) (la lb : List Int32) (h0 : Heap) (n0 : Nat) : Option Value → Heap → List Loc → Prop := fun v h L => ∃ (b : Addr) (kb : ClassId) (lr : List Int32), v = some (.ref b) ∧ Fr n0 L ∧ n0 ≤ h.size ∧ Keep h0 h [] ∧ Arv Z h b kb .int (Int32.ofNat lr.length) (lr.map Value.int) (.int (0 : Int32)) ∧ lr.length ≤ la.length + lb.length ∧ lr.Pairwise (· < ·) ∧ ∀ x, x ∈ lr ↔ (x ∈ la ∨ x ∈ lb)
set_option maxRecDepth 65536 in
set_option maxHeartbeats 40000000 in
theorem rmU (l : Launch) (Z : State) (a0 : Array Value) (hw : ∀ d ∈ tables_1, d.before a0 Z = true) (ws : List Jvm.Cond) (a b : Addr) (ka kb : ClassId) (la lb : List Int32) (h0 : Heap) (n0 : Nat) (Z0 : n0 ≤ h0.size) (V_a : Arv Z h0 a ka .int (Int32.ofNat la.length) (la.map Value.int) (.int (0 : Int32))) (V_b : Arv Z h0 b kb .int (Int32.ofNat lb.length) (lb.map Value.int) (.int (0 : Int32))) (hla : la.length ≤ 2) (hlb : lb.length ≤ 2) (sa : la.Pairwise (· < ·)) (sb : lb.Pairwise (· < ·)) :
    MetFree l (⟨"com/example/petri_net_analyzer/petrinetanalyzer/SparseVector", "union", "([I[I)[I"⟩ : MethodName) (head1 (Jvm.Cond.code (⟨"com/example/petri_net_analyzer/petrinetanalyzer/SparseVector", "union", "([I[I)[I"⟩ : MethodName) prog_31_method_14_code 9 (some (.array .int)) :: ws) ({ frames := 2, cells := 2, slots := 8, locals := 54 } : Room)) (fun as_ U => as_ = #[(.ref a), (.ref b)] ∧ Z.Warmed39 U.vm ∧ U.heap = h0) (fun _ _ _ _ _ => True) (fun _ U o U' => ∃ v L, o = .returned v ∧ (Q_rmU Z a b ka kb la lb h0 n0) v U'.heap L ∧ FrameEnd U o U' L ({ frames := 2, cells := 2, slots := 8, locals := 54 } : Room).cells ({ frames := 2, cells := 2, slots := 8, locals := 54 } : Room).slots) := by
  refine MetFree.of_bodySF (plainFor_of_name pn_2) hisR ?_
  intro p e s m args below meth c s₁ Bd hml0 hP hK
  obtain ⟨rfl, hZ, hh⟩ := hP
  have hx := Bd.exec
  have hby := Bd.bytes
  have hml : c.maxLocals = 9 := hml0
  have hown : s.vm.findClass "com/example/petri_net_analyzer/petrinetanalyzer/SparseVector" = some m.cls := findClass_of_methodNamed Bd.named
  have hnm := (name_of_methodNamed Bd.named Bd.method).1
  have X0 : Stand p l e ({ frames := 2, cells := 2, slots := 8, locals := 54 } : Room) s m #[(.ref a), (.ref b)] below meth c s₁ [] 0 0 := Stand.of_body Bd
  have e0 : s₁.heap = h0 := by rw [← hh, Bd.state]; rfl
  have N0 := Fr.nil n0
  show own_G p e below s (Q_rmU Z a b ka kb la lb h0 n0) ({ frames := 2, cells := 2, slots := 8, locals := 54 } : Room).cells ({ frames := 2, cells := 2, slots := 8, locals := 54 } : Room).slots (s₁.setTop (entryFrame m #[(.ref a), (.ref b)] 9))
  rw [ef_rmU m a b]
  have K0 : Keep h0 h0 [] := Keep.refl _ _
  show own_G p e below s _ _ _ (s₁.setTop (mkF m 0 #[.val (.ref a), .val (.ref b), .unset, .unset, .unset, .unset, .unset, .unset, .unset] []))
  refine own_go (fun _ kk_ => XS.aloadN X0.here hx rfl (hb hby d2_0) rfl rfl kk_) ?_
  show own_G p e below s _ _ _ (s₁.setTop (mkF m 1 #[.val (.ref a), .val (.ref b), .unset, .unset, .unset, .unset, .unset, .unset, .unset] [(.ref a)]))
  have Vc1 := V_a
  obtain ⟨cl1, Ar1, q1, S1, M1, H1, G1⟩ := Vc1
  refine own_go (X0.arraylength hx (cell := cl1) (by rw [e0]; exact Ar1.1) (State.isArrayOf_alike hZ.alike Ar1.2.1) (g := (mkF m 1 #[.val (.ref a), .val (.ref b), .unset, .unset, .unset, .unset, .unset, .unset, .unset] [(.ref a)])) rfl (rest := []) rfl (hb hby d2_1)) ?_
  rw [len_of S1 M1]
  show own_G p e below s _ _ _ (s₁.setTop (mkF m 2 #[.val (.ref a), .val (.ref b), .unset, .unset, .unset, .unset, .unset, .unset, .unset] [(.int (Int32.ofNat la.length))]))
  refine own_go (fun _ kk_ => XS.aloadN X0.here hx rfl (hb hby d2_2) rfl rfl kk_) ?_
  show own_G p e below s _ _ _ (s₁.setTop (mkF m 3 #[.val (.ref a), .val (.ref b), .unset, .unset, .unset, .unset, .unset, .unset, .unset] [(.ref b), (.int (Int32.ofNat la.length))]))
  have Vc2 := V_b
  obtain ⟨cl2, Ar2, q2, S2, M2, H2, G2⟩ := Vc2
  refine own_go (X0.arraylength hx (cell := cl2) (by rw [e0]; exact Ar2.1) (State.isArrayOf_alike hZ.alike Ar2.2.1) (g := (mkF m 3 #[.val (.ref a), .val (.ref b), .unset, .unset, .unset, .unset, .unset, .unset, .unset] [(.ref b), (.int (Int32.ofNat la.length))])) rfl (rest := [(.int (Int32.ofNat la.length))]) rfl (hb hby d2_3)) ?_
  rw [len_of S2 M2]
  show own_G p e below s _ _ _ (s₁.setTop (mkF m 4 #[.val (.ref a), .val (.ref b), .unset, .unset, .unset, .unset, .unset, .unset, .unset] [(.int (Int32.ofNat lb.length)), (.int (Int32.ofNat la.length))]))
  refine own_go (fun _ kk_ => XS.iadd X0.here hx rfl (hb hby d2_4) rfl kk_) ?_
  show own_G p e below s _ _ _ (s₁.setTop (mkF m 5 #[.val (.ref a), .val (.ref b), .unset, .unset, .unset, .unset, .unset, .unset, .unset] [(.int ((Int32.ofNat la.length) + (Int32.ofNat lb.length)))]))
  rw [own_sum]
  show own_G p e below s _ _ _ (s₁.setTop (mkF m 5 #[.val (.ref a), .val (.ref b), .unset, .unset, .unset, .unset, .unset, .unset, .unset] [(.int (Int32.ofNat (la.length + lb.length)))]))
  obtain ⟨T3, h3, k3, X3, e3, E3, A3, Ex3, st3⟩ := newPE X0 hx hZ (hw _ (List.mem_of_getElem? (i := 4) rfl)) e0 (g := (mkF m 5 #[.val (.ref a), .val (.ref b), .unset, .unset, .unset, .unset, .unset, .unset, .unset] [(.int (Int32.ofNat (la.length + lb.length)))])) rfl (hb hby d2_5) rfl (own_nn (by omega)) (cap := 4) (by rw [own_nat (by omega)]; omega) (by decide) (by decide) (by decide) (ad := "[I") (by decide)
  obtain ⟨b3, g3⟩ : ∃ z, z = h0.size := ⟨_, rfl⟩
  rw [← g3] at A3 st3 Ex3
  refine own_go st3 ?_
  have K3_ := K0.ext E3
  have V3_a := V_a.ext E3
  have V3_b := V_b.ext E3
  have ne_a_b3 : a ≠ b3 := Nat.ne_of_lt (Nat.lt_of_lt_of_le V_a.lt (Nat.le_of_eq g3.symm))
  have ne_b_b3 : b ≠ b3 := Nat.ne_of_lt (Nat.lt_of_lt_of_le V_b.lt (Nat.le_of_eq g3.symm))
  have g_b3 : n0 ≤ b3 := Nat.le_trans Z0 (Nat.le_of_eq g3.symm)
  have Z3 : n0 ≤ h3.size := Nat.le_trans Z0 E3.1
  have ko_b3 : h0.size ≤ b3 := Nat.le_trans K0.1 (Nat.le_of_eq g3.symm)
  have V3_b3 : Arv Z h3 b3 k3 .int (Int32.ofNat (la.length + lb.length)) [] (.int (0 : Int32)) := (Arv.new A3 (own_nn (by omega))).pad (pad_rep [] (.int (0 : Int32)) 0)
  show own_G p e below s _ _ _ (T3.setTop (mkF m 7 #[.val (.ref a), .val (.ref b), .unset, .unset, .unset, .unset, .unset, .unset, .unset] [(.ref b3)]))
  refine own_go (fun _ kk_ => XS.astoreN X3.here hx rfl (hb hby d2_7) rfl rfl (l' := #[.val (.ref a), .val (.ref b), .val (.ref b3), .unset, .unset, .unset, .unset, .unset, .unset]) rfl kk_) ?_
  show own_G p e below s _ _ _ (T3.setTop (mkF m 8 #[.val (.ref a), .val (.ref b), .val (.ref b3), .unset, .unset, .unset, .unset, .unset, .unset] []))
  refine own_go (fun _ kk_ => XS.iconst X3.here hx rfl (hb hby d2_8) kk_) ?_
  show own_G p e below s _ _ _ (T3.setTop (mkF m 9 #[.val (.ref a), .val (.ref b), .val (.ref b3), .unset, .unset, .unset, .unset, .unset, .unset] [(.int (0 : Int32))]))
  refine own_go (fun _ kk_ => XS.istoreN X3.here hx rfl (hb hby d2_9) rfl (l' := #[.val (.ref a), .val (.ref b), .val (.ref b3), .val (.int (0 : Int32)), .unset, .unset, .unset, .unset, .unset]) rfl kk_) ?_
  show own_G p e below s _ _ _ (T3.setTop (mkF m 10 #[.val (.ref a), .val (.ref b), .val (.ref b3), .val (.int (0 : Int32)), .unset, .unset, .unset, .unset, .unset] []))
  refine own_go (fun _ kk_ => XS.iconst X3.here hx rfl (hb hby d2_10) kk_) ?_
  show own_G p e below s _ _ _ (T3.setTop (mkF m 11 #[.val (.ref a), .val (.ref b), .val (.ref b3), .val (.int (0 : Int32)), .unset, .unset, .unset, .unset, .unset] [(.int (0 : Int32))]))
  refine own_go (fun _ kk_ => XS.istore X3.here hx rfl (hb hby d2_11) rfl (l' := #[.val (.ref a), .val (.ref b), .val (.ref b3), .val (.int (0 : Int32)), .val (.int (0 : Int32)), .unset, .unset, .unset, .unset]) rfl kk_) ?_
  show own_G p e below s _ _ _ (T3.setTop (mkF m 13 #[.val (.ref a), .val (.ref b), .val (.ref b3), .val (.int (0 : Int32)), .val (.int (0 : Int32)), .unset, .unset, .unset, .unset] []))
  refine own_go (fun _ kk_ => XS.iconst X3.here hx rfl (hb hby d2_13) kk_) ?_
  show own_G p e below s _ _ _ (T3.setTop (mkF m 14 #[.val (.ref a), .val (.ref b), .val (.ref b3), .val (.int (0 : Int32)), .val (.int (0 : Int32)), .unset, .unset, .unset, .unset] [(.int (0 : Int32))]))
  refine own_go (fun _ kk_ => XS.istore X3.here hx rfl (hb hby d2_14) rfl (l' := #[.val (.ref a), .val (.ref b), .val (.ref b3), .val (.int (0 : Int32)), .val (.int (0 : Int32)), .val (.int (0 : Int32)), .unset, .unset, .unset]) rfl kk_) ?_
  have loop : ∀ (fuel : Nat) (ro : List Int32) (i j : Nat) (s6 s7 s8 : Slot) (T : State) (h : Heap) (lo : List Loc), One s6 → One s7 → One s8 → (la.drop i).length + (lb.drop j).length = fuel → i ≤ ro.length → j ≤ ro.length → ro.length + fuel ≤ la.length + lb.length → own_inv la lb ro (la.drop i) (lb.drop j) → Stand p l e ({ frames := 2, cells := 2, slots := 8, locals := 54 } : Room) s m #[(.ref a), (.ref b)] below meth c T lo 1 4 → Fr n0 lo → T.heap = h → n0 ≤ h.size → Keep h0 h [] → Arv Z h a ka .int (Int32.ofNat la.length) (la.map Value.int) (.int (0 : Int32)) → Arv Z h b kb .int (Int32.ofNat lb.length) (lb.map Value.int) (.int (0 : Int32)) → Arv Z h b3 k3 .int (Int32.ofNat (la.length + lb.length)) (ro.map Value.int) (.int (0 : Int32)) → Exa Z h b3 "[I" → own_G p e below s (Q_rmU Z a b ka kb la lb h0 n0) ({ frames := 2, cells := 2, slots := 8, locals := 54 } : Room).cells ({ frames := 2, cells := 2, slots := 8, locals := 54 } : Room).slots (T.setTop (mkF m 16 #[.val (.ref a), .val (.ref b), .val (.ref b3), .val (.int (Int32.ofNat i)), .val (.int (Int32.ofNat j)), .val (.int (Int32.ofNat ro.length)), s6, s7, s8] [])) := by
    intro fuel
    induction fuel using Nat.strongRecOn with
    | ind fuel ih =>
      intro ro i j s6 s7 s8 T h lo hs6 hs7 hs8 hfu hi hj hro inv X NF e' Zh Kh Va Vb Vo Eo
      cases hA : la.drop i with
      | nil =>
        cases hB : lb.drop j with
        | nil =>
          rw [hA, hB] at inv hfu
          simp only [List.length_cons, List.length_nil] at hfu
          have da := own_dn hA
          have db := own_dn hB
          obtain ⟨da1, da2⟩ := da
          obtain ⟨db1, db2⟩ := db
          show own_G p e below s _ _ _ (T.setTop (mkF m 16 #[.val (.ref a), .val (.ref b), .val (.ref b3), .val (.int (Int32.ofNat i)), .val (.int (Int32.ofNat j)), .val (.int (Int32.ofNat ro.length)), s6, s7, s8] []))
          refine own_go (fun _ kk_ => XS.iloadN X.here hx rfl (hb hby d2_16) rfl kk_) ?_
          show own_G p e below s _ _ _ (T.setTop (mkF m 17 #[.val (.ref a), .val (.ref b), .val (.ref b3), .val (.int (Int32.ofNat i)), .val (.int (Int32.ofNat j)), .val (.int (Int32.ofNat ro.length)), s6, s7, s8] [(.int (Int32.ofNat i))]))
          refine own_go (fun _ kk_ => XS.aloadN X.here hx rfl (hb hby d2_17) rfl rfl kk_) ?_
          show own_G p e below s _ _ _ (T.setTop (mkF m 18 #[.val (.ref a), .val (.ref b), .val (.ref b3), .val (.int (Int32.ofNat i)), .val (.int (Int32.ofNat j)), .val (.int (Int32.ofNat ro.length)), s6, s7, s8] [(.ref a), (.int (Int32.ofNat i))]))
          have Vc4 := Va
          obtain ⟨cl4, Ar4, q4, S4, M4, H4, G4⟩ := Vc4
          refine own_go (X.arraylength hx (cell := cl4) (by rw [e']; exact Ar4.1) (State.isArrayOf_alike hZ.alike Ar4.2.1) (g := (mkF m 18 #[.val (.ref a), .val (.ref b), .val (.ref b3), .val (.int (Int32.ofNat i)), .val (.int (Int32.ofNat j)), .val (.int (Int32.ofNat ro.length)), s6, s7, s8] [(.ref a), (.int (Int32.ofNat i))])) rfl (rest := [(.int (Int32.ofNat i))]) rfl (hb hby d2_18)) ?_
          rw [len_of S4 M4]
          show own_G p e below s _ _ _ (T.setTop (mkF m 19 #[.val (.ref a), .val (.ref b), .val (.ref b3), .val (.int (Int32.ofNat i)), .val (.int (Int32.ofNat j)), .val (.int (Int32.ofNat ro.length)), s6, s7, s8] [(.int (Int32.ofNat la.length)), (.int (Int32.ofNat i))]))
          refine own_ic_ltN X hx (pc := 19) (hb hby d2_19) (fun q => absurd ((own_lt (by omega) (by omega)).mp q) (by omega)) ?_
          show own_G p e below s _ _ _ (T.setTop (mkF m 22 #[.val (.ref a), .val (.ref b), .val (.ref b3), .val (.int (Int32.ofNat i)), .val (.int (Int32.ofNat j)), .val (.int (Int32.ofNat ro.length)), s6, s7, s8] []))
          refine own_go (fun _ kk_ => XS.iload X.here hx rfl (hb hby d2_22) rfl kk_) ?_
          show own_G p e below s _ _ _ (T.setTop (mkF m 24 #[.val (.ref a), .val (.ref b), .val (.ref b3), .val (.int (Int32.ofNat i)), .val (.int (Int32.ofNat j)), .val (.int (Int32.ofNat ro.length)), s6, s7, s8] [(.int (Int32.ofNat j))]))
          refine own_go (fun _ kk_ => XS.aloadN X.here hx rfl (hb hby d2_24) rfl rfl kk_) ?_
          show own_G p e below s _ _ _ (T.setTop (mkF m 25 #[.val (.ref a), .val (.ref b), .val (.ref b3), .val (.int (Int32.ofNat i)), .val (.int (Int32.ofNat j)), .val (.int (Int32.ofNat ro.length)), s6, s7, s8] [(.ref b), (.int (Int32.ofNat j))]))
          have Vc5 := Vb
          obtain ⟨cl5, Ar5, q5, S5, M5, H5, G5⟩ := Vc5
          refine own_go (X.arraylength hx (cell := cl5) (by rw [e']; exact Ar5.1) (State.isArrayOf_alike hZ.alike Ar5.2.1) (g := (mkF m 25 #[.val (.ref a), .val (.ref b), .val (.ref b3), .val (.int (Int32.ofNat i)), .val (.int (Int32.ofNat j)), .val (.int (Int32.ofNat ro.length)), s6, s7, s8] [(.ref b), (.int (Int32.ofNat j))])) rfl (rest := [(.int (Int32.ofNat j))]) rfl (hb hby d2_25)) ?_
          rw [len_of S5 M5]
          show own_G p e below s _ _ _ (T.setTop (mkF m 26 #[.val (.ref a), .val (.ref b), .val (.ref b3), .val (.int (Int32.ofNat i)), .val (.int (Int32.ofNat j)), .val (.int (Int32.ofNat ro.length)), s6, s7, s8] [(.int (Int32.ofNat lb.length)), (.int (Int32.ofNat j))]))
          refine own_ic_geY X hx (pc := 26) (pc' := 116) (hb hby d2_26) (by decide) (by decide) (fun q => absurd ((own_lt (by omega) (by omega)).mp q) (by omega)) ?_
          show own_G p e below s _ _ _ (T.setTop (mkF m 116 #[.val (.ref a), .val (.ref b), .val (.ref b3), .val (.int (Int32.ofNat i)), .val (.int (Int32.ofNat j)), .val (.int (Int32.ofNat ro.length)), s6, s7, s8] []))
          refine own_go (fun _ kk_ => XS.aloadN X.here hx rfl (hb hby d2_116) rfl rfl kk_) ?_
          show own_G p e below s _ _ _ (T.setTop (mkF m 117 #[.val (.ref a), .val (.ref b), .val (.ref b3), .val (.int (Int32.ofNat i)), .val (.int (Int32.ofNat j)), .val (.int (Int32.ofNat ro.length)), s6, s7, s8] [(.ref b3)]))
          refine own_go (fun _ kk_ => XS.iload X.here hx rfl (hb hby d2_117) rfl kk_) ?_
          show own_G p e below s _ _ _ (T.setTop (mkF m 119 #[.val (.ref a), .val (.ref b), .val (.ref b3), .val (.int (Int32.ofNat i)), .val (.int (Int32.ofNat j)), .val (.int (Int32.ofNat ro.length)), s6, s7, s8] [(.int (Int32.ofNat ro.length)), (.ref b3)]))
          rw [show Int32.ofNat ro.length = Int32.ofNat (ro.map Value.int).length from by rw [List.length_map]]
          show own_G p e below s _ _ _ (T.setTop (mkF m 119 #[.val (.ref a), .val (.ref b), .val (.ref b3), .val (.int (Int32.ofNat i)), .val (.int (Int32.ofNat j)), .val (.int (Int32.ofNat (ro.map Value.int).length)), s6, s7, s8] [(.int (Int32.ofNat (ro.map Value.int).length)), (.ref b3)]))
          obtain ⟨_, _, ⟨T6, L6, k6, n6⟩, -, X6, ⟨Lc6, hQ6, l6, y6, z6⟩, st6⟩ := Jvm.LawKit.callS X hx (y := (⟨"java/util/Arrays", "copyOf", "([II)[I"⟩ : MethodName)) hown (mvT hZ (hw _ (List.mem_of_getElem? (i := 9) rfl))) (mvT hZ (hw _ (List.mem_of_getElem? (i := 10) rfl))) (mvT hZ (hw _ (List.mem_of_getElem? (i := 11) rfl))) (mvT hZ (hw _ (List.mem_of_getElem? (i := 12) rfl))) (by decide) (backOf (W := 0) (rmCp l Z a0 hw [] b3 k3 (la.length + lb.length) (ro.map Value.int) h n0 Zh Vo Eo (by omega) (by rw [List.length_map]; omega)) hZ (hw _ (List.mem_of_getElem? (i := 12) rfl)) (hw _ (List.mem_of_getElem? (i := 11) rfl)) (by decide) (by decide)) (g := (mkF m 119 #[.val (.ref a), .val (.ref b), .val (.ref b3), .val (.int (Int32.ofNat i)), .val (.int (Int32.ofNat j)), .val (.int (Int32.ofNat (ro.map Value.int).length)), s6, s7, s8] [(.int (Int32.ofNat (ro.map Value.int).length)), (.ref b3)])) rfl (by rw [hml]; rfl) (argsL := [(.ref b3), (.int (Int32.ofNat (ro.map Value.int).length))]) (rest := []) (lenOf pd_1 rfl) rfl (by show 2 * 0 + _ ≤ _; exact Nat.le_of_eq rfl) (hb hby d2_119) (fun _ _ => ⟨rfl, e', (by decide : 1 + 1 ≤ _), (by decide : 4 + 4 ≤ _)⟩)
          dsimp only [Pt.U, Pt.locs, Pt.cells, Pt.slots] at X6 l6 y6 z6 st6 hQ6
          subst l6 y6 z6
          generalize e6 : T6.heap = h6 at hQ6
          obtain ⟨bb6, kb6, rfl, N6q, Z6, K6, V6⟩ := hQ6
          have N6 := Fr.app NF N6q
          refine own_go st6 ?_
          rw [List.length_map] at V6
          show own_G p e below s _ _ _ (T6.setTop (mkF m 122 #[.val (.ref a), .val (.ref b), .val (.ref b3), .val (.int (Int32.ofNat i)), .val (.int (Int32.ofNat j)), .val (.int (Int32.ofNat (ro.map Value.int).length)), s6, s7, s8] [(.ref bb6)]))
          exact own_retA (ht := rfl) (hv := rfl) X6 hx Bd.returns (BodyLoose.notSynchronized Bd) (hb hby d2_122) e6 ⟨_, _, ro, rfl, N6, Z6, (Kh.trans K6 all0), V6, (by omega), inv.1, (fun z => by have q := inv.2.2.1 z; simpa using q)⟩ (by decide) (by decide)
        | cons y B' =>
          rw [hA, hB] at inv hfu
          simp only [List.length_cons, List.length_nil] at hfu
          have da := own_dn hA
          have db := own_dl hB
          obtain ⟨da1, da2⟩ := da
          obtain ⟨db1, db2⟩ := db
          show own_G p e below s _ _ _ (T.setTop (mkF m 16 #[.val (.ref a), .val (.ref b), .val (.ref b3), .val (.int (Int32.ofNat i)), .val (.int (Int32.ofNat j)), .val (.int (Int32.ofNat ro.length)), s6, s7, s8] []))
          refine own_go (fun _ kk_ => XS.iloadN X.here hx rfl (hb hby d2_16) rfl kk_) ?_
          show own_G p e below s _ _ _ (T.setTop (mkF m 17 #[.val (.ref a), .val (.ref b), .val (.ref b3), .val (.int (Int32.ofNat i)), .val (.int (Int32.ofNat j)), .val (.int (Int32.ofNat ro.length)), s6, s7, s8] [(.int (Int32.ofNat i))]))
          refine own_go (fun _ kk_ => XS.aloadN X.here hx rfl (hb hby d2_17) rfl rfl kk_) ?_
          show own_G p e below s _ _ _ (T.setTop (mkF m 18 #[.val (.ref a), .val (.ref b), .val (.ref b3), .val (.int (Int32.ofNat i)), .val (.int (Int32.ofNat j)), .val (.int (Int32.ofNat ro.length)), s6, s7, s8] [(.ref a), (.int (Int32.ofNat i))]))
          have Vc7 := Va
          obtain ⟨cl7, Ar7, q7, S7, M7, H7, G7⟩ := Vc7
          refine own_go (X.arraylength hx (cell := cl7) (by rw [e']; exact Ar7.1) (State.isArrayOf_alike hZ.alike Ar7.2.1) (g := (mkF m 18 #[.val (.ref a), .val (.ref b), .val (.ref b3), .val (.int (Int32.ofNat i)), .val (.int (Int32.ofNat j)), .val (.int (Int32.ofNat ro.length)), s6, s7, s8] [(.ref a), (.int (Int32.ofNat i))])) rfl (rest := [(.int (Int32.ofNat i))]) rfl (hb hby d2_18)) ?_
          rw [len_of S7 M7]
          show own_G p e below s _ _ _ (T.setTop (mkF m 19 #[.val (.ref a), .val (.ref b), .val (.ref b3), .val (.int (Int32.ofNat i)), .val (.int (Int32.ofNat j)), .val (.int (Int32.ofNat ro.length)), s6, s7, s8] [(.int (Int32.ofNat la.length)), (.int (Int32.ofNat i))]))
          refine own_ic_ltN X hx (pc := 19) (hb hby d2_19) (fun q => absurd ((own_lt (by omega) (by omega)).mp q) (by omega)) ?_
          show own_G p e below s _ _ _ (T.setTop (mkF m 22 #[.val (.ref a), .val (.ref b), .val (.ref b3), .val (.int (Int32.ofNat i)), .val (.int (Int32.ofNat j)), .val (.int (Int32.ofNat ro.length)), s6, s7, s8] []))
          refine own_go (fun _ kk_ => XS.iload X.here hx rfl (hb hby d2_22) rfl kk_) ?_
          show own_G p e below s _ _ _ (T.setTop (mkF m 24 #[.val (.ref a), .val (.ref b), .val (.ref b3), .val (.int (Int32.ofNat i)), .val (.int (Int32.ofNat j)), .val (.int (Int32.ofNat ro.length)), s6, s7, s8] [(.int (Int32.ofNat j))]))
          refine own_go (fun _ kk_ => XS.aloadN X.here hx rfl (hb hby d2_24) rfl rfl kk_) ?_
          show own_G p e below s _ _ _ (T.setTop (mkF m 25 #[.val (.ref a), .val (.ref b), .val (.ref b3), .val (.int (Int32.ofNat i)), .val (.int (Int32.ofNat j)), .val (.int (Int32.ofNat ro.length)), s6, s7, s8] [(.ref b), (.int (Int32.ofNat j))]))
          have Vc8 := Vb
          obtain ⟨cl8, Ar8, q8, S8, M8, H8, G8⟩ := Vc8
          refine own_go (X.arraylength hx (cell := cl8) (by rw [e']; exact Ar8.1) (State.isArrayOf_alike hZ.alike Ar8.2.1) (g := (mkF m 25 #[.val (.ref a), .val (.ref b), .val (.ref b3), .val (.int (Int32.ofNat i)), .val (.int (Int32.ofNat j)), .val (.int (Int32.ofNat ro.length)), s6, s7, s8] [(.ref b), (.int (Int32.ofNat j))])) rfl (rest := [(.int (Int32.ofNat j))]) rfl (hb hby d2_25)) ?_
          rw [len_of S8 M8]
          show own_G p e below s _ _ _ (T.setTop (mkF m 26 #[.val (.ref a), .val (.ref b), .val (.ref b3), .val (.int (Int32.ofNat i)), .val (.int (Int32.ofNat j)), .val (.int (Int32.ofNat ro.length)), s6, s7, s8] [(.int (Int32.ofNat lb.length)), (.int (Int32.ofNat j))]))
          refine own_ic_geN X hx (pc := 26) (hb hby d2_26) ((own_lt (by omega) (by omega)).mpr (by omega)) ?_
          show own_G p e below s _ _ _ (T.setTop (mkF m 29 #[.val (.ref a), .val (.ref b), .val (.ref b3), .val (.int (Int32.ofNat i)), .val (.int (Int32.ofNat j)), .val (.int (Int32.ofNat ro.length)), s6, s7, s8] []))
          refine own_go (fun _ kk_ => XS.iloadN X.here hx rfl (hb hby d2_29) rfl kk_) ?_
          show own_G p e below s _ _ _ (T.setTop (mkF m 30 #[.val (.ref a), .val (.ref b), .val (.ref b3), .val (.int (Int32.ofNat i)), .val (.int (Int32.ofNat j)), .val (.int (Int32.ofNat ro.length)), s6, s7, s8] [(.int (Int32.ofNat i))]))
          refine own_go (fun _ kk_ => XS.aloadN X.here hx rfl (hb hby d2_30) rfl rfl kk_) ?_
          show own_G p e below s _ _ _ (T.setTop (mkF m 31 #[.val (.ref a), .val (.ref b), .val (.ref b3), .val (.int (Int32.ofNat i)), .val (.int (Int32.ofNat j)), .val (.int (Int32.ofNat ro.length)), s6, s7, s8] [(.ref a), (.int (Int32.ofNat i))]))
          have Vc9 := Va
          obtain ⟨cl9, Ar9, q9, S9, M9, H9, G9⟩ := Vc9
          refine own_go (X.arraylength hx (cell := cl9) (by rw [e']; exact Ar9.1) (State.isArrayOf_alike hZ.alike Ar9.2.1) (g := (mkF m 31 #[.val (.ref a), .val (.ref b), .val (.ref b3), .val (.int (Int32.ofNat i)), .val (.int (Int32.ofNat j)), .val (.int (Int32.ofNat ro.length)), s6, s7, s8] [(.ref a), (.int (Int32.ofNat i))])) rfl (rest := [(.int (Int32.ofNat i))]) rfl (hb hby d2_31)) ?_
          rw [len_of S9 M9]
          show own_G p e below s _ _ _ (T.setTop (mkF m 32 #[.val (.ref a), .val (.ref b), .val (.ref b3), .val (.int (Int32.ofNat i)), .val (.int (Int32.ofNat j)), .val (.int (Int32.ofNat ro.length)), s6, s7, s8] [(.int (Int32.ofNat la.length)), (.int (Int32.ofNat i))]))
          refine own_ic_geY X hx (pc := 32) (pc' := 41) (hb hby d2_32) (by decide) (by decide) (fun q => absurd ((own_lt (by omega) (by omega)).mp q) (by omega)) ?_
          show own_G p e below s _ _ _ (T.setTop (mkF m 41 #[.val (.ref a), .val (.ref b), .val (.ref b3), .val (.int (Int32.ofNat i)), .val (.int (Int32.ofNat j)), .val (.int (Int32.ofNat ro.length)), s6, s7, s8] []))
          refine own_go (fun _ kk_ => X.ldcInt hx hown (mvT hZ (hw _ (List.mem_of_getElem? (i := 31) rfl))) (g := (mkF m 41 #[.val (.ref a), .val (.ref b), .val (.ref b3), .val (.int (Int32.ofNat i)), .val (.int (Int32.ofNat j)), .val (.int (Int32.ofNat ro.length)), s6, s7, s8] [])) rfl (hb hby d2_41) _ kk_) ?_
          show own_G p e below s _ _ _ (T.setTop (mkF m 43 #[.val (.ref a), .val (.ref b), .val (.ref b3), .val (.int (Int32.ofNat i)), .val (.int (Int32.ofNat j)), .val (.int (Int32.ofNat ro.length)), s6, s7, s8] [(.int (2147483647 : Int32))]))
          refine own_go (fun _ kk_ => XS.istoreS X.here hx rfl (hb hby d2_43) rfl rfl hs6 kk_) ?_
          show own_G p e below s _ _ _ (T.setTop (mkF m 45 #[.val (.ref a), .val (.ref b), .val (.ref b3), .val (.int (Int32.ofNat i)), .val (.int (Int32.ofNat j)), .val (.int (Int32.ofNat ro.length)), .val (.int (2147483647 : Int32)), s7, s8] []))
          refine own_go (fun _ kk_ => XS.iload X.here hx rfl (hb hby d2_45) rfl kk_) ?_
          show own_G p e below s _ _ _ (T.setTop (mkF m 47 #[.val (.ref a), .val (.ref b), .val (.ref b3), .val (.int (Int32.ofNat i)), .val (.int (Int32.ofNat j)), .val (.int (Int32.ofNat ro.length)), .val (.int (2147483647 : Int32)), s7, s8] [(.int (Int32.ofNat j))]))
          refine own_go (fun _ kk_ => XS.aloadN X.here hx rfl (hb hby d2_47) rfl rfl kk_) ?_
          show own_G p e below s _ _ _ (T.setTop (mkF m 48 #[.val (.ref a), .val (.ref b), .val (.ref b3), .val (.int (Int32.ofNat i)), .val (.int (Int32.ofNat j)), .val (.int (Int32.ofNat ro.length)), .val (.int (2147483647 : Int32)), s7, s8] [(.ref b), (.int (Int32.ofNat j))]))
          have Vc10 := Vb
          obtain ⟨cl10, Ar10, q10, S10, M10, H10, G10⟩ := Vc10
          refine own_go (X.arraylength hx (cell := cl10) (by rw [e']; exact Ar10.1) (State.isArrayOf_alike hZ.alike Ar10.2.1) (g := (mkF m 48 #[.val (.ref a), .val (.ref b), .val (.ref b3), .val (.int (Int32.ofNat i)), .val (.int (Int32.ofNat j)), .val (.int (Int32.ofNat ro.length)), .val (.int (2147483647 : Int32)), s7, s8] [(.ref b), (.int (Int32.ofNat j))])) rfl (rest := [(.int (Int32.ofNat j))]) rfl (hb hby d2_48)) ?_
          rw [len_of S10 M10]
          show own_G p e below s _ _ _ (T.setTop (mkF m 49 #[.val (.ref a), .val (.ref b), .val (.ref b3), .val (.int (Int32.ofNat i)), .val (.int (Int32.ofNat j)), .val (.int (Int32.ofNat ro.length)), .val (.int (2147483647 : Int32)), s7, s8] [(.int (Int32.ofNat lb.length)), (.int (Int32.ofNat j))]))
          refine own_ic_geN X hx (pc := 49) (hb hby d2_49) ((own_lt (by omega) (by omega)).mpr (by omega)) ?_
          show own_G p e below s _ _ _ (T.setTop (mkF m 52 #[.val (.ref a), .val (.ref b), .val (.ref b3), .val (.int (Int32.ofNat i)), .val (.int (Int32.ofNat j)), .val (.int (Int32.ofNat ro.length)), .val (.int (2147483647 : Int32)), s7, s8] []))
          refine own_go (fun _ kk_ => XS.aloadN X.here hx rfl (hb hby d2_52) rfl rfl kk_) ?_
          show own_G p e below s _ _ _ (T.setTop (mkF m 53 #[.val (.ref a), .val (.ref b), .val (.ref b3), .val (.int (Int32.ofNat i)), .val (.int (Int32.ofNat j)), .val (.int (Int32.ofNat ro.length)), .val (.int (2147483647 : Int32)), s7, s8] [(.ref b)]))
          refine own_go (fun _ kk_ => XS.iload X.here hx rfl (hb hby d2_53) rfl kk_) ?_
          show own_G p e below s _ _ _ (T.setTop (mkF m 55 #[.val (.ref a), .val (.ref b), .val (.ref b3), .val (.int (Int32.ofNat i)), .val (.int (Int32.ofNat j)), .val (.int (Int32.ofNat ro.length)), .val (.int (2147483647 : Int32)), s7, s8] [(.int (Int32.ofNat j)), (.ref b)]))
          have Vc11 := Vb
          obtain ⟨cl11, Ar11, q11, S11, M11, H11, G11⟩ := Vc11
          have hin11 := inb_of (j := (Int32.ofNat j)) S11 ⟨own_nn (by omega), ((own_lt (by omega) (by omega)).mpr (by omega))⟩
          have hat11 := H11.at hin11 (v := (.int y)) (by rw [own_nat (by omega)]; exact own_at lb hB _)
          refine own_go (X.iaload hx (j := (Int32.ofNat j)) (v := (.int y)) (by rw [e']; exact Ar11.1) (State.isArrayOf_alike hZ.alike Ar11.2.1) Ar11.2.2 hin11 hat11 (g := (mkF m 55 #[.val (.ref a), .val (.ref b), .val (.ref b3), .val (.int (Int32.ofNat i)), .val (.int (Int32.ofNat j)), .val (.int (Int32.ofNat ro.length)), .val (.int (2147483647 : Int32)), s7, s8] [(.int (Int32.ofNat j)), (.ref b)])) rfl rfl (hb hby d2_55)) ?_
          show own_G p e below s _ _ _ (T.setTop (mkF m 56 #[.val (.ref a), .val (.ref b), .val (.ref b3), .val (.int (Int32.ofNat i)), .val (.int (Int32.ofNat j)), .val (.int (Int32.ofNat ro.length)), .val (.int (2147483647 : Int32)), s7, s8] [(.int y)]))
          refine own_go (fun _ kk_ => XS.goto X.here hx rfl (pc0 := 56) (pc' := 61) rfl (hb hby d2_56) (by decide) (by decide) kk_) ?_
          show own_G p e below s _ _ _ (T.setTop (mkF m 61 #[.val (.ref a), .val (.ref b), .val (.ref b3), .val (.int (Int32.ofNat i)), .val (.int (Int32.ofNat j)), .val (.int (Int32.ofNat ro.length)), .val (.int (2147483647 : Int32)), s7, s8] [(.int y)]))
          refine own_go (fun _ kk_ => XS.istoreS X.here hx rfl (hb hby d2_61) rfl rfl hs7 kk_) ?_
          show own_G p e below s _ _ _ (T.setTop (mkF m 63 #[.val (.ref a), .val (.ref b), .val (.ref b3), .val (.int (Int32.ofNat i)), .val (.int (Int32.ofNat j)), .val (.int (Int32.ofNat ro.length)), .val (.int (2147483647 : Int32)), .val (.int y), s8] []))
          refine own_go (fun _ kk_ => XS.iload X.here hx rfl (hb hby d2_63) rfl kk_) ?_
          show own_G p e below s _ _ _ (T.setTop (mkF m 65 #[.val (.ref a), .val (.ref b), .val (.ref b3), .val (.int (Int32.ofNat i)), .val (.int (Int32.ofNat j)), .val (.int (Int32.ofNat ro.length)), .val (.int (2147483647 : Int32)), .val (.int y), s8] [(.int (2147483647 : Int32))]))
          refine own_go (fun _ kk_ => XS.iload X.here hx rfl (hb hby d2_65) rfl kk_) ?_
          show own_G p e below s _ _ _ (T.setTop (mkF m 67 #[.val (.ref a), .val (.ref b), .val (.ref b3), .val (.int (Int32.ofNat i)), .val (.int (Int32.ofNat j)), .val (.int (Int32.ofNat ro.length)), .val (.int (2147483647 : Int32)), .val (.int y), s8] [(.int y), (.int (2147483647 : Int32))]))
          obtain ⟨_, _, ⟨T12, L12, k12, n12⟩, -, X12, ⟨Lc12, hQ12, l12, y12, z12⟩, st12⟩ := Jvm.LawKit.callS X hx (y := (⟨"java/lang/Math", "min", "(II)I"⟩ : MethodName)) hown (mvT hZ (hw _ (List.mem_of_getElem? (i := 32) rfl))) (mvT hZ (hw _ (List.mem_of_getElem? (i := 33) rfl))) (mvT hZ (hw _ (List.mem_of_getElem? (i := 34) rfl))) (mvT hZ (hw _ (List.mem_of_getElem? (i := 35) rfl))) (by decide) (backOf (W := 0) (rmMin l Z a0 hw [] (2147483647 : Int32) y h n0 Zh) hZ (hw _ (List.mem_of_getElem? (i := 35) rfl)) (hw _ (List.mem_of_getElem? (i := 34) rfl)) (by decide) (by decide)) (g := (mkF m 67 #[.val (.ref a), .val (.ref b), .val (.ref b3), .val (.int (Int32.ofNat i)), .val (.int (Int32.ofNat j)), .val (.int (Int32.ofNat ro.length)), .val (.int (2147483647 : Int32)), .val (.int y), s8] [(.int y), (.int (2147483647 : Int32))])) rfl (by rw [hml]; rfl) (argsL := [(.int (2147483647 : Int32)), (.int y)]) (rest := []) (lenOf pd_0 rfl) rfl (by show 2 * 0 + _ ≤ _; exact Nat.le_of_eq rfl) (hb hby d2_67) (fun _ _ => ⟨rfl, e', (by decide : 1 + 0 ≤ _), (by decide : 4 + 0 ≤ _)⟩)
          dsimp only [Pt.U, Pt.locs, Pt.cells, Pt.slots] at X12 l12 y12 z12 st12 hQ12
          subst l12 y12 z12
          obtain ⟨rfl, N12q, e12⟩ := hQ12
          have N12 := Fr.app NF N12q
          refine own_go st12 ?_
          show own_G p e below s _ _ _ (T12.setTop (mkF m 70 #[.val (.ref a), .val (.ref b), .val (.ref b3), .val (.int (Int32.ofNat i)), .val (.int (Int32.ofNat j)), .val (.int (Int32.ofNat ro.length)), .val (.int (2147483647 : Int32)), .val (.int y), s8] [(.int (own_min (2147483647 : Int32) y))]))
          rcases own_tri (2147483647 : Int32) y with hq | hq | hq
          · rw [own_min_l hq]
            exact absurd hq (own_nmax _)
          · rw [own_min_e hq]
            show own_G p e below s _ _ _ (T12.setTop (mkF m 70 #[.val (.ref a), .val (.ref b), .val (.ref b3), .val (.int (Int32.ofNat i)), .val (.int (Int32.ofNat j)), .val (.int (Int32.ofNat ro.length)), .val (.int (2147483647 : Int32)), .val (.int y), s8] [(.int (2147483647 : Int32))]))
            refine own_go (fun _ kk_ => XS.istoreS X12.here hx rfl (hb hby d2_70) rfl rfl hs8 kk_) ?_
            show own_G p e below s _ _ _ (T12.setTop (mkF m 72 #[.val (.ref a), .val (.ref b), .val (.ref b3), .val (.int (Int32.ofNat i)), .val (.int (Int32.ofNat j)), .val (.int (Int32.ofNat ro.length)), .val (.int (2147483647 : Int32)), .val (.int y), .val (.int (2147483647 : Int32))] []))
            refine own_go (fun _ kk_ => XS.aloadN X12.here hx rfl (hb hby d2_72) rfl rfl kk_) ?_
            show own_G p e below s _ _ _ (T12.setTop (mkF m 73 #[.val (.ref a), .val (.ref b), .val (.ref b3), .val (.int (Int32.ofNat i)), .val (.int (Int32.ofNat j)), .val (.int (Int32.ofNat ro.length)), .val (.int (2147483647 : Int32)), .val (.int y), .val (.int (2147483647 : Int32))] [(.ref b3)]))
            refine own_go (fun _ kk_ => XS.iload X12.here hx rfl (hb hby d2_73) rfl kk_) ?_
            show own_G p e below s _ _ _ (T12.setTop (mkF m 75 #[.val (.ref a), .val (.ref b), .val (.ref b3), .val (.int (Int32.ofNat i)), .val (.int (Int32.ofNat j)), .val (.int (Int32.ofNat ro.length)), .val (.int (2147483647 : Int32)), .val (.int y), .val (.int (2147483647 : Int32))] [(.int (Int32.ofNat ro.length)), (.ref b3)]))
            refine own_go (fun _ kk_ => XS.iinc X12.here hx rfl (hb hby d2_75) rfl (l' := #[.val (.ref a), .val (.ref b), .val (.ref b3), .val (.int (Int32.ofNat i)), .val (.int (Int32.ofNat j)), .val (.int ((Int32.ofNat ro.length) + (1 : Int32))), .val (.int (2147483647 : Int32)), .val (.int y), .val (.int (2147483647 : Int32))]) rfl kk_) ?_
            show own_G p e below s _ _ _ (T12.setTop (mkF m 78 #[.val (.ref a), .val (.ref b), .val (.ref b3), .val (.int (Int32.ofNat i)), .val (.int (Int32.ofNat j)), .val (.int ((Int32.ofNat ro.length) + (1 : Int32))), .val (.int (2147483647 : Int32)), .val (.int y), .val (.int (2147483647 : Int32))] [(.int (Int32.ofNat ro.length)), (.ref b3)]))
            refine own_go (fun _ kk_ => XS.iload X12.here hx rfl (hb hby d2_78) rfl kk_) ?_
            show own_G p e below s _ _ _ (T12.setTop (mkF m 80 #[.val (.ref a), .val (.ref b), .val (.ref b3), .val (.int (Int32.ofNat i)), .val (.int (Int32.ofNat j)), .val (.int ((Int32.ofNat ro.length) + (1 : Int32))), .val (.int (2147483647 : Int32)), .val (.int y), .val (.int (2147483647 : Int32))] [(.int (2147483647 : Int32)), (.int (Int32.ofNat ro.length)), (.ref b3)]))
            have Vp13 := Vo.pad (pad_rep (ro.map Value.int) (.int (0 : Int32)) 1)
            have Vc14 := Vp13
            obtain ⟨cl14, Ar14, q14, S14, M14, H14, G14⟩ := Vc14
            have hin14 := inb_of (j := (Int32.ofNat ro.length)) S14 ⟨own_nn (by omega), ((own_lt (by omega) (by omega)).mpr (by omega))⟩
            obtain ⟨T15, h15, X15, e15, W15, st15⟩ := stI X12 hx hZ e12 Ar14 (j := (Int32.ofNat ro.length)) hin14 (g := (mkF m 80 #[.val (.ref a), .val (.ref b), .val (.ref b3), .val (.int (Int32.ofNat i)), .val (.int (Int32.ofNat j)), .val (.int ((Int32.ofNat ro.length) + (1 : Int32))), .val (.int (2147483647 : Int32)), .val (.int y), .val (.int (2147483647 : Int32))] [(.int (2147483647 : Int32)), (.int (Int32.ofNat ro.length)), (.ref b3)])) rfl rfl (hb hby d2_80)
            refine own_go st15 ?_
            have K15_ := Kh.wr W15 (Or.inr ko_b3)
            have V15_a := Va.other W15 ne_a_b3
            have V15_b := Vb.other W15 ne_b_b3
            have V15_b3 : Arv Z h15 b3 k3 .int (Int32.ofNat (la.length + lb.length)) ((ro.map Value.int ++ List.replicate 1 (Value.int (0 : Int32))).set ro.length (Value.int (2147483647 : Int32))) (.int (0 : Int32)) := Arv.set Ar14 q14 S14 M14 H14 G14 rfl W15 ro.length (own_nat (by omega)) (by simp)
            have E15_b3 := Eo.wr W15
            have Z15 : n0 ≤ h15.size := by rw [W15.size]; exact Zh
            have N15 := Fr.snoc X15 N12 g_b3
            rw [own_snoc] at V15_b3
            show own_G p e below s _ _ _ (T15.setTop (mkF m 81 #[.val (.ref a), .val (.ref b), .val (.ref b3), .val (.int (Int32.ofNat i)), .val (.int (Int32.ofNat j)), .val (.int ((Int32.ofNat ro.length) + (1 : Int32))), .val (.int (2147483647 : Int32)), .val (.int y), .val (.int (2147483647 : Int32))] []))
            refine own_go (fun _ kk_ => XS.iloadN X15.here hx rfl (hb hby d2_81) rfl kk_) ?_
            show own_G p e below s _ _ _ (T15.setTop (mkF m 82 #[.val (.ref a), .val (.ref b), .val (.ref b3), .val (.int (Int32.ofNat i)), .val (.int (Int32.ofNat j)), .val (.int ((Int32.ofNat ro.length) + (1 : Int32))), .val (.int (2147483647 : Int32)), .val (.int y), .val (.int (2147483647 : Int32))] [(.int (Int32.ofNat i))]))
            refine own_go (fun _ kk_ => XS.iload X15.here hx rfl (hb hby d2_82) rfl kk_) ?_
            show own_G p e below s _ _ _ (T15.setTop (mkF m 84 #[.val (.ref a), .val (.ref b), .val (.ref b3), .val (.int (Int32.ofNat i)), .val (.int (Int32.ofNat j)), .val (.int ((Int32.ofNat ro.length) + (1 : Int32))), .val (.int (2147483647 : Int32)), .val (.int y), .val (.int (2147483647 : Int32))] [(.int (2147483647 : Int32)), (.int (Int32.ofNat i))]))
            refine own_go (fun _ kk_ => XS.iload X15.here hx rfl (hb hby d2_84) rfl kk_) ?_
            show own_G p e below s _ _ _ (T15.setTop (mkF m 86 #[.val (.ref a), .val (.ref b), .val (.ref b3), .val (.int (Int32.ofNat i)), .val (.int (Int32.ofNat j)), .val (.int ((Int32.ofNat ro.length) + (1 : Int32))), .val (.int (2147483647 : Int32)), .val (.int y), .val (.int (2147483647 : Int32))] [(.int (2147483647 : Int32)), (.int (2147483647 : Int32)), (.int (Int32.ofNat i))]))
            refine own_ic_neN X15 hx (pc := 86) (hb hby d2_86) rfl ?_
            show own_G p e below s _ _ _ (T15.setTop (mkF m 89 #[.val (.ref a), .val (.ref b), .val (.ref b3), .val (.int (Int32.ofNat i)), .val (.int (Int32.ofNat j)), .val (.int ((Int32.ofNat ro.length) + (1 : Int32))), .val (.int (2147483647 : Int32)), .val (.int y), .val (.int (2147483647 : Int32))] [(.int (Int32.ofNat i))]))
            refine own_go (fun _ kk_ => XS.iconst X15.here hx rfl (hb hby d2_89) kk_) ?_
            show own_G p e below s _ _ _ (T15.setTop (mkF m 90 #[.val (.ref a), .val (.ref b), .val (.ref b3), .val (.int (Int32.ofNat i)), .val (.int (Int32.ofNat j)), .val (.int ((Int32.ofNat ro.length) + (1 : Int32))), .val (.int (2147483647 : Int32)), .val (.int y), .val (.int (2147483647 : Int32))] [(.int (1 : Int32)), (.int (Int32.ofNat i))]))
            refine own_go (fun _ kk_ => XS.goto X15.here hx rfl (pc0 := 90) (pc' := 94) rfl (hb hby d2_90) (by decide) (by decide) kk_) ?_
            show own_G p e below s _ _ _ (T15.setTop (mkF m 94 #[.val (.ref a), .val (.ref b), .val (.ref b3), .val (.int (Int32.ofNat i)), .val (.int (Int32.ofNat j)), .val (.int ((Int32.ofNat ro.length) + (1 : Int32))), .val (.int (2147483647 : Int32)), .val (.int y), .val (.int (2147483647 : Int32))] [(.int (1 : Int32)), (.int (Int32.ofNat i))]))
            refine own_go (fun _ kk_ => XS.iadd X15.here hx rfl (hb hby d2_94) rfl kk_) ?_
            show own_G p e below s _ _ _ (T15.setTop (mkF m 95 #[.val (.ref a), .val (.ref b), .val (.ref b3), .val (.int (Int32.ofNat i)), .val (.int (Int32.ofNat j)), .val (.int ((Int32.ofNat ro.length) + (1 : Int32))), .val (.int (2147483647 : Int32)), .val (.int y), .val (.int (2147483647 : Int32))] [(.int ((Int32.ofNat i) + (1 : Int32)))]))
            refine own_go (fun _ kk_ => XS.istoreN X15.here hx rfl (hb hby d2_95) rfl (l' := #[.val (.ref a), .val (.ref b), .val (.ref b3), .val (.int ((Int32.ofNat i) + (1 : Int32))), .val (.int (Int32.ofNat j)), .val (.int ((Int32.ofNat ro.length) + (1 : Int32))), .val (.int (2147483647 : Int32)), .val (.int y), .val (.int (2147483647 : Int32))]) rfl kk_) ?_
            show own_G p e below s _ _ _ (T15.setTop (mkF m 96 #[.val (.ref a), .val (.ref b), .val (.ref b3), .val (.int ((Int32.ofNat i) + (1 : Int32))), .val (.int (Int32.ofNat j)), .val (.int ((Int32.ofNat ro.length) + (1 : Int32))), .val (.int (2147483647 : Int32)), .val (.int y), .val (.int (2147483647 : Int32))] []))
            refine own_go (fun _ kk_ => XS.iload X15.here hx rfl (hb hby d2_96) rfl kk_) ?_
            show own_G p e below s _ _ _ (T15.setTop (mkF m 98 #[.val (.ref a), .val (.ref b), .val (.ref b3), .val (.int ((Int32.ofNat i) + (1 : Int32))), .val (.int (Int32.ofNat j)), .val (.int ((Int32.ofNat ro.length) + (1 : Int32))), .val (.int (2147483647 : Int32)), .val (.int y), .val (.int (2147483647 : Int32))] [(.int (Int32.ofNat j))]))
            refine own_go (fun _ kk_ => XS.iload X15.here hx rfl (hb hby d2_98) rfl kk_) ?_
            show own_G p e below s _ _ _ (T15.setTop (mkF m 100 #[.val (.ref a), .val (.ref b), .val (.ref b3), .val (.int ((Int32.ofNat i) + (1 : Int32))), .val (.int (Int32.ofNat j)), .val (.int ((Int32.ofNat ro.length) + (1 : Int32))), .val (.int (2147483647 : Int32)), .val (.int y), .val (.int (2147483647 : Int32))] [(.int y), (.int (Int32.ofNat j))]))
            refine own_go (fun _ kk_ => XS.iload X15.here hx rfl (hb hby d2_100) rfl kk_) ?_
            show own_G p e below s _ _ _ (T15.setTop (mkF m 102 #[.val (.ref a), .val (.ref b), .val (.ref b3), .val (.int ((Int32.ofNat i) + (1 : Int32))), .val (.int (Int32.ofNat j)), .val (.int ((Int32.ofNat ro.length) + (1 : Int32))), .val (.int (2147483647 : Int32)), .val (.int y), .val (.int (2147483647 : Int32))] [(.int (2147483647 : Int32)), (.int y), (.int (Int32.ofNat j))]))
            refine own_ic_neN X15 hx (pc := 102) (hb hby d2_102) hq.symm ?_
            show own_G p e below s _ _ _ (T15.setTop (mkF m 105 #[.val (.ref a), .val (.ref b), .val (.ref b3), .val (.int ((Int32.ofNat i) + (1 : Int32))), .val (.int (Int32.ofNat j)), .val (.int ((Int32.ofNat ro.length) + (1 : Int32))), .val (.int (2147483647 : Int32)), .val (.int y), .val (.int (2147483647 : Int32))] [(.int (Int32.ofNat j))]))
            refine own_go (fun _ kk_ => XS.iconst X15.here hx rfl (hb hby d2_105) kk_) ?_
            show own_G p e below s _ _ _ (T15.setTop (mkF m 106 #[.val (.ref a), .val (.ref b), .val (.ref b3), .val (.int ((Int32.ofNat i) + (1 : Int32))), .val (.int (Int32.ofNat j)), .val (.int ((Int32.ofNat ro.length) + (1 : Int32))), .val (.int (2147483647 : Int32)), .val (.int y), .val (.int (2147483647 : Int32))] [(.int (1 : Int32)), (.int (Int32.ofNat j))]))
            refine own_go (fun _ kk_ => XS.goto X15.here hx rfl (pc0 := 106) (pc' := 110) rfl (hb hby d2_106) (by decide) (by decide) kk_) ?_
            show own_G p e below s _ _ _ (T15.setTop (mkF m 110 #[.val (.ref a), .val (.ref b), .val (.ref b3), .val (.int ((Int32.ofNat i) + (1 : Int32))), .val (.int (Int32.ofNat j)), .val (.int ((Int32.ofNat ro.length) + (1 : Int32))), .val (.int (2147483647 : Int32)), .val (.int y), .val (.int (2147483647 : Int32))] [(.int (1 : Int32)), (.int (Int32.ofNat j))]))
            refine own_go (fun _ kk_ => XS.iadd X15.here hx rfl (hb hby d2_110) rfl kk_) ?_
            show own_G p e below s _ _ _ (T15.setTop (mkF m 111 #[.val (.ref a), .val (.ref b), .val (.ref b3), .val (.int ((Int32.ofNat i) + (1 : Int32))), .val (.int (Int32.ofNat j)), .val (.int ((Int32.ofNat ro.length) + (1 : Int32))), .val (.int (2147483647 : Int32)), .val (.int y), .val (.int (2147483647 : Int32))] [(.int ((Int32.ofNat j) + (1 : Int32)))]))
            refine own_go (fun _ kk_ => XS.istore X15.here hx rfl (hb hby d2_111) rfl (l' := #[.val (.ref a), .val (.ref b), .val (.ref b3), .val (.int ((Int32.ofNat i) + (1 : Int32))), .val (.int ((Int32.ofNat j) + (1 : Int32))), .val (.int ((Int32.ofNat ro.length) + (1 : Int32))), .val (.int (2147483647 : Int32)), .val (.int y), .val (.int (2147483647 : Int32))]) rfl kk_) ?_
            show own_G p e below s _ _ _ (T15.setTop (mkF m 113 #[.val (.ref a), .val (.ref b), .val (.ref b3), .val (.int ((Int32.ofNat i) + (1 : Int32))), .val (.int ((Int32.ofNat j) + (1 : Int32))), .val (.int ((Int32.ofNat ro.length) + (1 : Int32))), .val (.int (2147483647 : Int32)), .val (.int y), .val (.int (2147483647 : Int32))] []))
            refine own_go (fun _ kk_ => XS.goto X15.here hx rfl (pc0 := 113) (pc' := 16) rfl (hb hby d2_113) (by decide) (by decide) kk_) ?_
            show own_G p e below s _ _ _ (T15.setTop (mkF m 16 #[.val (.ref a), .val (.ref b), .val (.ref b3), .val (.int ((Int32.ofNat i) + (1 : Int32))), .val (.int ((Int32.ofNat j) + (1 : Int32))), .val (.int ((Int32.ofNat ro.length) + (1 : Int32))), .val (.int (2147483647 : Int32)), .val (.int y), .val (.int (2147483647 : Int32))] []))
            rw [own_succ i, own_succ j, own_succ ro.length]
            have hlen : (ro ++ [(2147483647 : Int32)]).length = ro.length + 1 := by simp
            rw [← hlen]
            have hf2 : ((la.drop (i + 1)).length + (lb.drop (j + 1)).length) + 1 ≤ fuel := by
              rw [da2, db2]
              try simp only [List.length_cons, List.length_nil]
              omega
            refine ih ((la.drop (i + 1)).length + (lb.drop (j + 1)).length) (by omega) (ro ++ [(2147483647 : Int32)]) (i + 1) (j + 1) _ _ _ _ _ _ (One.val rfl) (One.val rfl) (One.val rfl) rfl (by rw [hlen]; omega) (by rw [hlen]; omega) (by rw [hlen]; omega) ?_ X15 N15 e15 Z15 K15_ V15_a V15_b V15_b3 E15_b3
            rw [da2, db2]
            exact (by rw [← hq] at inv; exact (own_inv_rm inv).2)
          · rw [own_min_r hq]
            show own_G p e below s _ _ _ (T12.setTop (mkF m 70 #[.val (.ref a), .val (.ref b), .val (.ref b3), .val (.int (Int32.ofNat i)), .val (.int (Int32.ofNat j)), .val (.int (Int32.ofNat ro.length)), .val (.int (2147483647 : Int32)), .val (.int y), s8] [(.int y)]))
            refine own_go (fun _ kk_ => XS.istoreS X12.here hx rfl (hb hby d2_70) rfl rfl hs8 kk_) ?_
            show own_G p e below s _ _ _ (T12.setTop (mkF m 72 #[.val (.ref a), .val (.ref b), .val (.ref b3), .val (.int (Int32.ofNat i)), .val (.int (Int32.ofNat j)), .val (.int (Int32.ofNat ro.length)), .val (.int (2147483647 : Int32)), .val (.int y), .val (.int y)] []))
            refine own_go (fun _ kk_ => XS.aloadN X12.here hx rfl (hb hby d2_72) rfl rfl kk_) ?_
            show own_G p e below s _ _ _ (T12.setTop (mkF m 73 #[.val (.ref a), .val (.ref b), .val (.ref b3), .val (.int (Int32.ofNat i)), .val (.int (Int32.ofNat j)), .val (.int (Int32.ofNat ro.length)), .val (.int (2147483647 : Int32)), .val (.int y), .val (.int y)] [(.ref b3)]))
            refine own_go (fun _ kk_ => XS.iload X12.here hx rfl (hb hby d2_73) rfl kk_) ?_
            show own_G p e below s _ _ _ (T12.setTop (mkF m 75 #[.val (.ref a), .val (.ref b), .val (.ref b3), .val (.int (Int32.ofNat i)), .val (.int (Int32.ofNat j)), .val (.int (Int32.ofNat ro.length)), .val (.int (2147483647 : Int32)), .val (.int y), .val (.int y)] [(.int (Int32.ofNat ro.length)), (.ref b3)]))
            refine own_go (fun _ kk_ => XS.iinc X12.here hx rfl (hb hby d2_75) rfl (l' := #[.val (.ref a), .val (.ref b), .val (.ref b3), .val (.int (Int32.ofNat i)), .val (.int (Int32.ofNat j)), .val (.int ((Int32.ofNat ro.length) + (1 : Int32))), .val (.int (2147483647 : Int32)), .val (.int y), .val (.int y)]) rfl kk_) ?_
            show own_G p e below s _ _ _ (T12.setTop (mkF m 78 #[.val (.ref a), .val (.ref b), .val (.ref b3), .val (.int (Int32.ofNat i)), .val (.int (Int32.ofNat j)), .val (.int ((Int32.ofNat ro.length) + (1 : Int32))), .val (.int (2147483647 : Int32)), .val (.int y), .val (.int y)] [(.int (Int32.ofNat ro.length)), (.ref b3)]))
            refine own_go (fun _ kk_ => XS.iload X12.here hx rfl (hb hby d2_78) rfl kk_) ?_
            show own_G p e below s _ _ _ (T12.setTop (mkF m 80 #[.val (.ref a), .val (.ref b), .val (.ref b3), .val (.int (Int32.ofNat i)), .val (.int (Int32.ofNat j)), .val (.int ((Int32.ofNat ro.length) + (1 : Int32))), .val (.int (2147483647 : Int32)), .val (.int y), .val (.int y)] [(.int y), (.int (Int32.ofNat ro.length)), (.ref b3)]))
            have Vp16 := Vo.pad (pad_rep (ro.map Value.int) (.int (0 : Int32)) 1)
            have Vc17 := Vp16
            obtain ⟨cl17, Ar17, q17, S17, M17, H17, G17⟩ := Vc17
            have hin17 := inb_of (j := (Int32.ofNat ro.length)) S17 ⟨own_nn (by omega), ((own_lt (by omega) (by omega)).mpr (by omega))⟩
            obtain ⟨T18, h18, X18, e18, W18, st18⟩ := stI X12 hx hZ e12 Ar17 (j := (Int32.ofNat ro.length)) hin17 (g := (mkF m 80 #[.val (.ref a), .val (.ref b), .val (.ref b3), .val (.int (Int32.ofNat i)), .val (.int (Int32.ofNat j)), .val (.int ((Int32.ofNat ro.length) + (1 : Int32))), .val (.int (2147483647 : Int32)), .val (.int y), .val (.int y)] [(.int y), (.int (Int32.ofNat ro.length)), (.ref b3)])) rfl rfl (hb hby d2_80)
            refine own_go st18 ?_
            have K18_ := Kh.wr W18 (Or.inr ko_b3)
            have V18_a := Va.other W18 ne_a_b3
            have V18_b := Vb.other W18 ne_b_b3
            have V18_b3 : Arv Z h18 b3 k3 .int (Int32.ofNat (la.length + lb.length)) ((ro.map Value.int ++ List.replicate 1 (Value.int (0 : Int32))).set ro.length (Value.int y)) (.int (0 : Int32)) := Arv.set Ar17 q17 S17 M17 H17 G17 rfl W18 ro.length (own_nat (by omega)) (by simp)
            have E18_b3 := Eo.wr W18
            have Z18 : n0 ≤ h18.size := by rw [W18.size]; exact Zh
            have N18 := Fr.snoc X18 N12 g_b3
            rw [own_snoc] at V18_b3
            show own_G p e below s _ _ _ (T18.setTop (mkF m 81 #[.val (.ref a), .val (.ref b), .val (.ref b3), .val (.int (Int32.ofNat i)), .val (.int (Int32.ofNat j)), .val (.int ((Int32.ofNat ro.length) + (1 : Int32))), .val (.int (2147483647 : Int32)), .val (.int y), .val (.int y)] []))
            refine own_go (fun _ kk_ => XS.iloadN X18.here hx rfl (hb hby d2_81) rfl kk_) ?_
            show own_G p e below s _ _ _ (T18.setTop (mkF m 82 #[.val (.ref a), .val (.ref b), .val (.ref b3), .val (.int (Int32.ofNat i)), .val (.int (Int32.ofNat j)), .val (.int ((Int32.ofNat ro.length) + (1 : Int32))), .val (.int (2147483647 : Int32)), .val (.int y), .val (.int y)] [(.int (Int32.ofNat i))]))
            refine own_go (fun _ kk_ => XS.iload X18.here hx rfl (hb hby d2_82) rfl kk_) ?_
            show own_G p e below s _ _ _ (T18.setTop (mkF m 84 #[.val (.ref a), .val (.ref b), .val (.ref b3), .val (.int (Int32.ofNat i)), .val (.int (Int32.ofNat j)), .val (.int ((Int32.ofNat ro.length) + (1 : Int32))), .val (.int (2147483647 : Int32)), .val (.int y), .val (.int y)] [(.int (2147483647 : Int32)), (.int (Int32.ofNat i))]))
            refine own_go (fun _ kk_ => XS.iload X18.here hx rfl (hb hby d2_84) rfl kk_) ?_
            show own_G p e below s _ _ _ (T18.setTop (mkF m 86 #[.val (.ref a), .val (.ref b), .val (.ref b3), .val (.int (Int32.ofNat i)), .val (.int (Int32.ofNat j)), .val (.int ((Int32.ofNat ro.length) + (1 : Int32))), .val (.int (2147483647 : Int32)), .val (.int y), .val (.int y)] [(.int y), (.int (2147483647 : Int32)), (.int (Int32.ofNat i))]))
            refine own_ic_neY X18 hx (pc := 86) (pc' := 93) (hb hby d2_86) (by decide) (by decide) (own_ne' hq) ?_
            show own_G p e below s _ _ _ (T18.setTop (mkF m 93 #[.val (.ref a), .val (.ref b), .val (.ref b3), .val (.int (Int32.ofNat i)), .val (.int (Int32.ofNat j)), .val (.int ((Int32.ofNat ro.length) + (1 : Int32))), .val (.int (2147483647 : Int32)), .val (.int y), .val (.int y)] [(.int (Int32.ofNat i))]))
            refine own_go (fun _ kk_ => XS.iconst X18.here hx rfl (hb hby d2_93) kk_) ?_
            show own_G p e below s _ _ _ (T18.setTop (mkF m 94 #[.val (.ref a), .val (.ref b), .val (.ref b3), .val (.int (Int32.ofNat i)), .val (.int (Int32.ofNat j)), .val (.int ((Int32.ofNat ro.length) + (1 : Int32))), .val (.int (2147483647 : Int32)), .val (.int y), .val (.int y)] [(.int (0 : Int32)), (.int (Int32.ofNat i))]))
            refine own_go (fun _ kk_ => XS.iadd X18.here hx rfl (hb hby d2_94) rfl kk_) ?_
            show own_G p e below s _ _ _ (T18.setTop (mkF m 95 #[.val (.ref a), .val (.ref b), .val (.ref b3), .val (.int (Int32.ofNat i)), .val (.int (Int32.ofNat j)), .val (.int ((Int32.ofNat ro.length) + (1 : Int32))), .val (.int (2147483647 : Int32)), .val (.int y), .val (.int y)] [(.int ((Int32.ofNat i) + (0 : Int32)))]))
            refine own_go (fun _ kk_ => XS.istoreN X18.here hx rfl (hb hby d2_95) rfl (l' := #[.val (.ref a), .val (.ref b), .val (.ref b3), .val (.int ((Int32.ofNat i) + (0 : Int32))), .val (.int (Int32.ofNat j)), .val (.int ((Int32.ofNat ro.length) + (1 : Int32))), .val (.int (2147483647 : Int32)), .val (.int y), .val (.int y)]) rfl kk_) ?_
            show own_G p e below s _ _ _ (T18.setTop (mkF m 96 #[.val (.ref a), .val (.ref b), .val (.ref b3), .val (.int ((Int32.ofNat i) + (0 : Int32))), .val (.int (Int32.ofNat j)), .val (.int ((Int32.ofNat ro.length) + (1 : Int32))), .val (.int (2147483647 : Int32)), .val (.int y), .val (.int y)] []))
            refine own_go (fun _ kk_ => XS.iload X18.here hx rfl (hb hby d2_96) rfl kk_) ?_
            show own_G p e below s _ _ _ (T18.setTop (mkF m 98 #[.val (.ref a), .val (.ref b), .val (.ref b3), .val (.int ((Int32.ofNat i) + (0 : Int32))), .val (.int (Int32.ofNat j)), .val (.int ((Int32.ofNat ro.length) + (1 : Int32))), .val (.int (2147483647 : Int32)), .val (.int y), .val (.int y)] [(.int (Int32.ofNat j))]))
            refine own_go (fun _ kk_ => XS.iload X18.here hx rfl (hb hby d2_98) rfl kk_) ?_
            show own_G p e below s _ _ _ (T18.setTop (mkF m 100 #[.val (.ref a), .val (.ref b), .val (.ref b3), .val (.int ((Int32.ofNat i) + (0 : Int32))), .val (.int (Int32.ofNat j)), .val (.int ((Int32.ofNat ro.length) + (1 : Int32))), .val (.int (2147483647 : Int32)), .val (.int y), .val (.int y)] [(.int y), (.int (Int32.ofNat j))]))
            refine own_go (fun _ kk_ => XS.iload X18.here hx rfl (hb hby d2_100) rfl kk_) ?_
            show own_G p e below s _ _ _ (T18.setTop (mkF m 102 #[.val (.ref a), .val (.ref b), .val (.ref b3), .val (.int ((Int32.ofNat i) + (0 : Int32))), .val (.int (Int32.ofNat j)), .val (.int ((Int32.ofNat ro.length) + (1 : Int32))), .val (.int (2147483647 : Int32)), .val (.int y), .val (.int y)] [(.int y), (.int y), (.int (Int32.ofNat j))]))
            refine own_ic_neN X18 hx (pc := 102) (hb hby d2_102) rfl ?_
            show own_G p e below s _ _ _ (T18.setTop (mkF m 105 #[.val (.ref a), .val (.ref b), .val (.ref b3), .val (.int ((Int32.ofNat i) + (0 : Int32))), .val (.int (Int32.ofNat j)), .val (.int ((Int32.ofNat ro.length) + (1 : Int32))), .val (.int (2147483647 : Int32)), .val (.int y), .val (.int y)] [(.int (Int32.ofNat j))]))
            refine own_go (fun _ kk_ => XS.iconst X18.here hx rfl (hb hby d2_105) kk_) ?_
            show own_G p e below s _ _ _ (T18.setTop (mkF m 106 #[.val (.ref a), .val (.ref b), .val (.ref b3), .val (.int ((Int32.ofNat i) + (0 : Int32))), .val (.int (Int32.ofNat j)), .val (.int ((Int32.ofNat ro.length) + (1 : Int32))), .val (.int (2147483647 : Int32)), .val (.int y), .val (.int y)] [(.int (1 : Int32)), (.int (Int32.ofNat j))]))
            refine own_go (fun _ kk_ => XS.goto X18.here hx rfl (pc0 := 106) (pc' := 110) rfl (hb hby d2_106) (by decide) (by decide) kk_) ?_
            show own_G p e below s _ _ _ (T18.setTop (mkF m 110 #[.val (.ref a), .val (.ref b), .val (.ref b3), .val (.int ((Int32.ofNat i) + (0 : Int32))), .val (.int (Int32.ofNat j)), .val (.int ((Int32.ofNat ro.length) + (1 : Int32))), .val (.int (2147483647 : Int32)), .val (.int y), .val (.int y)] [(.int (1 : Int32)), (.int (Int32.ofNat j))]))
            refine own_go (fun _ kk_ => XS.iadd X18.here hx rfl (hb hby d2_110) rfl kk_) ?_
            show own_G p e below s _ _ _ (T18.setTop (mkF m 111 #[.val (.ref a), .val (.ref b), .val (.ref b3), .val (.int ((Int32.ofNat i) + (0 : Int32))), .val (.int (Int32.ofNat j)), .val (.int ((Int32.ofNat ro.length) + (1 : Int32))), .val (.int (2147483647 : Int32)), .val (.int y), .val (.int y)] [(.int ((Int32.ofNat j) + (1 : Int32)))]))
            refine own_go (fun _ kk_ => XS.istore X18.here hx rfl (hb hby d2_111) rfl (l' := #[.val (.ref a), .val (.ref b), .val (.ref b3), .val (.int ((Int32.ofNat i) + (0 : Int32))), .val (.int ((Int32.ofNat j) + (1 : Int32))), .val (.int ((Int32.ofNat ro.length) + (1 : Int32))), .val (.int (2147483647 : Int32)), .val (.int y), .val (.int y)]) rfl kk_) ?_
            show own_G p e below s _ _ _ (T18.setTop (mkF m 113 #[.val (.ref a), .val (.ref b), .val (.ref b3), .val (.int ((Int32.ofNat i) + (0 : Int32))), .val (.int ((Int32.ofNat j) + (1 : Int32))), .val (.int ((Int32.ofNat ro.length) + (1 : Int32))), .val (.int (2147483647 : Int32)), .val (.int y), .val (.int y)] []))
            refine own_go (fun _ kk_ => XS.goto X18.here hx rfl (pc0 := 113) (pc' := 16) rfl (hb hby d2_113) (by decide) (by decide) kk_) ?_
            show own_G p e below s _ _ _ (T18.setTop (mkF m 16 #[.val (.ref a), .val (.ref b), .val (.ref b3), .val (.int ((Int32.ofNat i) + (0 : Int32))), .val (.int ((Int32.ofNat j) + (1 : Int32))), .val (.int ((Int32.ofNat ro.length) + (1 : Int32))), .val (.int (2147483647 : Int32)), .val (.int y), .val (.int y)] []))
            rw [own_zero (Int32.ofNat i), own_succ j, own_succ ro.length]
            have hlen : (ro ++ [y]).length = ro.length + 1 := by simp
            rw [← hlen]
            have hf2 : ((la.drop i).length + (lb.drop (j + 1)).length) + 1 ≤ fuel := by
              rw [hA, db2]
              try simp only [List.length_cons, List.length_nil]
              omega
            refine ih ((la.drop i).length + (lb.drop (j + 1)).length) (by omega) (ro ++ [y]) i (j + 1) _ _ _ _ _ _ (One.val rfl) (One.val rfl) (One.val rfl) rfl (by rw [hlen]; omega) (by rw [hlen]; omega) (by rw [hlen]; omega) ?_ X18 N18 e18 Z18 K18_ V18_a V18_b V18_b3 E18_b3
            rw [hA, db2]
            exact (own_inv_r inv hq (Or.inl rfl))
      | cons x A' =>
        cases hB : lb.drop j with
        | nil =>
          rw [hA, hB] at inv hfu
          simp only [List.length_cons, List.length_nil] at hfu
          have da := own_dl hA
          have db := own_dn hB
          obtain ⟨da1, da2⟩ := da
          obtain ⟨db1, db2⟩ := db
          show own_G p e below s _ _ _ (T.setTop (mkF m 16 #[.val (.ref a), .val (.ref b), .val (.ref b3), .val (.int (Int32.ofNat i)), .val (.int (Int32.ofNat j)), .val (.int (Int32.ofNat ro.length)), s6, s7, s8] []))
          refine own_go (fun _ kk_ => XS.iloadN X.here hx rfl (hb hby d2_16) rfl kk_) ?_
          show own_G p e below s _ _ _ (T.setTop (mkF m 17 #[.val (.ref a), .val (.ref b), .val (.ref b3), .val (.int (Int32.ofNat i)), .val (.int (Int32.ofNat j)), .val (.int (Int32.ofNat ro.length)), s6, s7, s8] [(.int (Int32.ofNat i))]))
          refine own_go (fun _ kk_ => XS.aloadN X.here hx rfl (hb hby d2_17) rfl rfl kk_) ?_
          show own_G p e below s _ _ _ (T.setTop (mkF m 18 #[.val (.ref a), .val (.ref b), .val (.ref b3), .val (.int (Int32.ofNat i)), .val (.int (Int32.ofNat j)), .val (.int (Int32.ofNat ro.length)), s6, s7, s8] [(.ref a), (.int (Int32.ofNat i))]))
          have Vc19 := Va
          obtain ⟨cl19, Ar19, q19, S19, M19, H19, G19⟩ := Vc19
          refine own_go (X.arraylength hx (cell := cl19) (by rw [e']; exact Ar19.1) (State.isArrayOf_alike hZ.alike Ar19.2.1) (g := (mkF m 18 #[.val (.ref a), .val (.ref b), .val (.ref b3), .val (.int (Int32.ofNat i)), .val (.int (Int32.ofNat j)), .val (.int (Int32.ofNat ro.length)), s6, s7, s8] [(.ref a), (.int (Int32.ofNat i))])) rfl (rest := [(.int (Int32.ofNat i))]) rfl (hb hby d2_18)) ?_
          rw [len_of S19 M19]
          show own_G p e below s _ _ _ (T.setTop (mkF m 19 #[.val (.ref a), .val (.ref b), .val (.ref b3), .val (.int (Int32.ofNat i)), .val (.int (Int32.ofNat j)), .val (.int (Int32.ofNat ro.length)), s6, s7, s8] [(.int (Int32.ofNat la.length)), (.int (Int32.ofNat i))]))
          refine own_ic_ltY X hx (pc := 19) (pc' := 29) (hb hby d2_19) (by decide) (by decide) ((own_lt (by omega) (by omega)).mpr (by omega)) ?_
          show own_G p e below s _ _ _ (T.setTop (mkF m 29 #[.val (.ref a), .val (.ref b), .val (.ref b3), .val (.int (Int32.ofNat i)), .val (.int (Int32.ofNat j)), .val (.int (Int32.ofNat ro.length)), s6, s7, s8] []))
          refine own_go (fun _ kk_ => XS.iloadN X.here hx rfl (hb hby d2_29) rfl kk_) ?_
          show own_G p e below s _ _ _ (T.setTop (mkF m 30 #[.val (.ref a), .val (.ref b), .val (.ref b3), .val (.int (Int32.ofNat i)), .val (.int (Int32.ofNat j)), .val (.int (Int32.ofNat ro.length)), s6, s7, s8] [(.int (Int32.ofNat i))]))
          refine own_go (fun _ kk_ => XS.aloadN X.here hx rfl (hb hby d2_30) rfl rfl kk_) ?_
          show own_G p e below s _ _ _ (T.setTop (mkF m 31 #[.val (.ref a), .val (.ref b), .val (.ref b3), .val (.int (Int32.ofNat i)), .val (.int (Int32.ofNat j)), .val (.int (Int32.ofNat ro.length)), s6, s7, s8] [(.ref a), (.int (Int32.ofNat i))]))
          have Vc20 := Va
          obtain ⟨cl20, Ar20, q20, S20, M20, H20, G20⟩ := Vc20
          refine own_go (X.arraylength hx (cell := cl20) (by rw [e']; exact Ar20.1) (State.isArrayOf_alike hZ.alike Ar20.2.1) (g := (mkF m 31 #[.val (.ref a), .val (.ref b), .val (.ref b3), .val (.int (Int32.ofNat i)), .val (.int (Int32.ofNat j)), .val (.int (Int32.ofNat ro.length)), s6, s7, s8] [(.ref a), (.int (Int32.ofNat i))])) rfl (rest := [(.int (Int32.ofNat i))]) rfl (hb hby d2_31)) ?_
          rw [len_of S20 M20]
          show own_G p e below s _ _ _ (T.setTop (mkF m 32 #[.val (.ref a), .val (.ref b), .val (.ref b3), .val (.int (Int32.ofNat i)), .val (.int (Int32.ofNat j)), .val (.int (Int32.ofNat ro.length)), s6, s7, s8] [(.int (Int32.ofNat la.length)), (.int (Int32.ofNat i))]))
          refine own_ic_geN X hx (pc := 32) (hb hby d2_32) ((own_lt (by omega) (by omega)).mpr (by omega)) ?_
          show own_G p e below s _ _ _ (T.setTop (mkF m 35 #[.val (.ref a), .val (.ref b), .val (.ref b3), .val (.int (Int32.ofNat i)), .val (.int (Int32.ofNat j)), .val (.int (Int32.ofNat ro.length)), s6, s7, s8] []))
          refine own_go (fun _ kk_ => XS.aloadN X.here hx rfl (hb hby d2_35) rfl rfl kk_) ?_
          show own_G p e below s _ _ _ (T.setTop (mkF m 36 #[.val (.ref a), .val (.ref b), .val (.ref b3), .val (.int (Int32.ofNat i)), .val (.int (Int32.ofNat j)), .val (.int (Int32.ofNat ro.length)), s6, s7, s8] [(.ref a)]))
          refine own_go (fun _ kk_ => XS.iloadN X.here hx rfl (hb hby d2_36) rfl kk_) ?_
          show own_G p e below s _ _ _ (T.setTop (mkF m 37 #[.val (.ref a), .val (.ref b), .val (.ref b3), .val (.int (Int32.ofNat i)), .val (.int (Int32.ofNat j)), .val (.int (Int32.ofNat ro.length)), s6, s7, s8] [(.int (Int32.ofNat i)), (.ref a)]))
          have Vc21 := Va
          obtain ⟨cl21, Ar21, q21, S21, M21, H21, G21⟩ := Vc21
          have hin21 := inb_of (j := (Int32.ofNat i)) S21 ⟨own_nn (by omega), ((own_lt (by omega) (by omega)).mpr (by omega))⟩
          have hat21 := H21.at hin21 (v := (.int x)) (by rw [own_nat (by omega)]; exact own_at la hA _)
          refine own_go (X.iaload hx (j := (Int32.ofNat i)) (v := (.int x)) (by rw [e']; exact Ar21.1) (State.isArrayOf_alike hZ.alike Ar21.2.1) Ar21.2.2 hin21 hat21 (g := (mkF m 37 #[.val (.ref a), .val (.ref b), .val (.ref b3), .val (.int (Int32.ofNat i)), .val (.int (Int32.ofNat j)), .val (.int (Int32.ofNat ro.length)), s6, s7, s8] [(.int (Int32.ofNat i)), (.ref a)])) rfl rfl (hb hby d2_37)) ?_
          show own_G p e below s _ _ _ (T.setTop (mkF m 38 #[.val (.ref a), .val (.ref b), .val (.ref b3), .val (.int (Int32.ofNat i)), .val (.int (Int32.ofNat j)), .val (.int (Int32.ofNat ro.length)), s6, s7, s8] [(.int x)]))
          refine own_go (fun _ kk_ => XS.goto X.here hx rfl (pc0 := 38) (pc' := 43) rfl (hb hby d2_38) (by decide) (by decide) kk_) ?_
          show own_G p e below s _ _ _ (T.setTop (mkF m 43 #[.val (.ref a), .val (.ref b), .val (.ref b3), .val (.int (Int32.ofNat i)), .val (.int (Int32.ofNat j)), .val (.int (Int32.ofNat ro.length)), s6, s7, s8] [(.int x)]))
          refine own_go (fun _ kk_ => XS.istoreS X.here hx rfl (hb hby d2_43) rfl rfl hs6 kk_) ?_
          show own_G p e below s _ _ _ (T.setTop (mkF m 45 #[.val (.ref a), .val (.ref b), .val (.ref b3), .val (.int (Int32.ofNat i)), .val (.int (Int32.ofNat j)), .val (.int (Int32.ofNat ro.length)), .val (.int x), s7, s8] []))
          refine own_go (fun _ kk_ => XS.iload X.here hx rfl (hb hby d2_45) rfl kk_) ?_
          show own_G p e below s _ _ _ (T.setTop (mkF m 47 #[.val (.ref a), .val (.ref b), .val (.ref b3), .val (.int (Int32.ofNat i)), .val (.int (Int32.ofNat j)), .val (.int (Int32.ofNat ro.length)), .val (.int x), s7, s8] [(.int (Int32.ofNat j))]))
          refine own_go (fun _ kk_ => XS.aloadN X.here hx rfl (hb hby d2_47) rfl rfl kk_) ?_
          show own_G p e below s _ _ _ (T.setTop (mkF m 48 #[.val (.ref a), .val (.ref b), .val (.ref b3), .val (.int (Int32.ofNat i)), .val (.int (Int32.ofNat j)), .val (.int (Int32.ofNat ro.length)), .val (.int x), s7, s8] [(.ref b), (.int (Int32.ofNat j))]))
          have Vc22 := Vb
          obtain ⟨cl22, Ar22, q22, S22, M22, H22, G22⟩ := Vc22
          refine own_go (X.arraylength hx (cell := cl22) (by rw [e']; exact Ar22.1) (State.isArrayOf_alike hZ.alike Ar22.2.1) (g := (mkF m 48 #[.val (.ref a), .val (.ref b), .val (.ref b3), .val (.int (Int32.ofNat i)), .val (.int (Int32.ofNat j)), .val (.int (Int32.ofNat ro.length)), .val (.int x), s7, s8] [(.ref b), (.int (Int32.ofNat j))])) rfl (rest := [(.int (Int32.ofNat j))]) rfl (hb hby d2_48)) ?_
          rw [len_of S22 M22]
          show own_G p e below s _ _ _ (T.setTop (mkF m 49 #[.val (.ref a), .val (.ref b), .val (.ref b3), .val (.int (Int32.ofNat i)), .val (.int (Int32.ofNat j)), .val (.int (Int32.ofNat ro.length)), .val (.int x), s7, s8] [(.int (Int32.ofNat lb.length)), (.int (Int32.ofNat j))]))
          refine own_ic_geY X hx (pc := 49) (pc' := 59) (hb hby d2_49) (by decide) (by decide) (fun q => absurd ((own_lt (by omega) (by omega)).mp q) (by omega)) ?_
          show own_G p e below s _ _ _ (T.setTop (mkF m 59 #[.val (.ref a), .val (.ref b), .val (.ref b3), .val (.int (Int32.ofNat i)), .val (.int (Int32.ofNat j)), .val (.int (Int32.ofNat ro.length)), .val (.int x), s7, s8] []))
          refine own_go (fun _ kk_ => X.ldcInt hx hown (mvT hZ (hw _ (List.mem_of_getElem? (i := 31) rfl))) (g := (mkF m 59 #[.val (.ref a), .val (.ref b), .val (.ref b3), .val (.int (Int32.ofNat i)), .val (.int (Int32.ofNat j)), .val (.int (Int32.ofNat ro.length)), .val (.int x), s7, s8] [])) rfl (hb hby d2_59) _ kk_) ?_
          show own_G p e below s _ _ _ (T.setTop (mkF m 61 #[.val (.ref a), .val (.ref b), .val (.ref b3), .val (.int (Int32.ofNat i)), .val (.int (Int32.ofNat j)), .val (.int (Int32.ofNat ro.length)), .val (.int x), s7, s8] [(.int (2147483647 : Int32))]))
          refine own_go (fun _ kk_ => XS.istoreS X.here hx rfl (hb hby d2_61) rfl rfl hs7 kk_) ?_
          show own_G p e below s _ _ _ (T.setTop (mkF m 63 #[.val (.ref a), .val (.ref b), .val (.ref b3), .val (.int (Int32.ofNat i)), .val (.int (Int32.ofNat j)), .val (.int (Int32.ofNat ro.length)), .val (.int x), .val (.int (2147483647 : Int32)), s8] []))
          refine own_go (fun _ kk_ => XS.iload X.here hx rfl (hb hby d2_63) rfl kk_) ?_
          show own_G p e below s _ _ _ (T.setTop (mkF m 65 #[.val (.ref a), .val (.ref b), .val (.ref b3), .val (.int (Int32.ofNat i)), .val (.int (Int32.ofNat j)), .val (.int (Int32.ofNat ro.length)), .val (.int x), .val (.int (2147483647 : Int32)), s8] [(.int x)]))
          refine own_go (fun _ kk_ => XS.iload X.here hx rfl (hb hby d2_65) rfl kk_) ?_
          show own_G p e below s _ _ _ (T.setTop (mkF m 67 #[.val (.ref a), .val (.ref b), .val (.ref b3), .val (.int (Int32.ofNat i)), .val (.int (Int32.ofNat j)), .val (.int (Int32.ofNat ro.length)), .val (.int x), .val (.int (2147483647 : Int32)), s8] [(.int (2147483647 : Int32)), (.int x)]))
          obtain ⟨_, _, ⟨T23, L23, k23, n23⟩, -, X23, ⟨Lc23, hQ23, l23, y23, z23⟩, st23⟩ := Jvm.LawKit.callS X hx (y := (⟨"java/lang/Math", "min", "(II)I"⟩ : MethodName)) hown (mvT hZ (hw _ (List.mem_of_getElem? (i := 32) rfl))) (mvT hZ (hw _ (List.mem_of_getElem? (i := 33) rfl))) (mvT hZ (hw _ (List.mem_of_getElem? (i := 34) rfl))) (mvT hZ (hw _ (List.mem_of_getElem? (i := 35) rfl))) (by decide) (backOf (W := 0) (rmMin l Z a0 hw [] x (2147483647 : Int32) h n0 Zh) hZ (hw _ (List.mem_of_getElem? (i := 35) rfl)) (hw _ (List.mem_of_getElem? (i := 34) rfl)) (by decide) (by decide)) (g := (mkF m 67 #[.val (.ref a), .val (.ref b), .val (.ref b3), .val (.int (Int32.ofNat i)), .val (.int (Int32.ofNat j)), .val (.int (Int32.ofNat ro.length)), .val (.int x), .val (.int (2147483647 : Int32)), s8] [(.int (2147483647 : Int32)), (.int x)])) rfl (by rw [hml]; rfl) (argsL := [(.int x), (.int (2147483647 : Int32))]) (rest := []) (lenOf pd_0 rfl) rfl (by show 2 * 0 + _ ≤ _; exact Nat.le_of_eq rfl) (hb hby d2_67) (fun _ _ => ⟨rfl, e', (by decide : 1 + 0 ≤ _), (by decide : 4 + 0 ≤ _)⟩)
          dsimp only [Pt.U, Pt.locs, Pt.cells, Pt.slots] at X23 l23 y23 z23 st23 hQ23
          subst l23 y23 z23
          obtain ⟨rfl, N23q, e23⟩ := hQ23
          have N23 := Fr.app NF N23q
          refine own_go st23 ?_
          show own_G p e below s _ _ _ (T23.setTop (mkF m 70 #[.val (.ref a), .val (.ref b), .val (.ref b3), .val (.int (Int32.ofNat i)), .val (.int (Int32.ofNat j)), .val (.int (Int32.ofNat ro.length)), .val (.int x), .val (.int (2147483647 : Int32)), s8] [(.int (own_min x (2147483647 : Int32)))]))
          rcases own_tri x (2147483647 : Int32) with hq | hq | hq
          · rw [own_min_l hq]
            show own_G p e below s _ _ _ (T23.setTop (mkF m 70 #[.val (.ref a), .val (.ref b), .val (.ref b3), .val (.int (Int32.ofNat i)), .val (.int (Int32.ofNat j)), .val (.int (Int32.ofNat ro.length)), .val (.int x), .val (.int (2147483647 : Int32)), s8] [(.int x)]))
            refine own_go (fun _ kk_ => XS.istoreS X23.here hx rfl (hb hby d2_70) rfl rfl hs8 kk_) ?_
            show own_G p e below s _ _ _ (T23.setTop (mkF m 72 #[.val (.ref a), .val (.ref b), .val (.ref b3), .val (.int (Int32.ofNat i)), .val (.int (Int32.ofNat j)), .val (.int (Int32.ofNat ro.length)), .val (.int x), .val (.int (2147483647 : Int32)), .val (.int x)] []))
            refine own_go (fun _ kk_ => XS.aloadN X23.here hx rfl (hb hby d2_72) rfl rfl kk_) ?_
            show own_G p e below s _ _ _ (T23.setTop (mkF m 73 #[.val (.ref a), .val (.ref b), .val (.ref b3), .val (.int (Int32.ofNat i)), .val (.int (Int32.ofNat j)), .val (.int (Int32.ofNat ro.length)), .val (.int x), .val (.int (2147483647 : Int32)), .val (.int x)] [(.ref b3)]))
            refine own_go (fun _ kk_ => XS.iload X23.here hx rfl (hb hby d2_73) rfl kk_) ?_
            show own_G p e below s _ _ _ (T23.setTop (mkF m 75 #[.val (.ref a), .val (.ref b), .val (.ref b3), .val (.int (Int32.ofNat i)), .val (.int (Int32.ofNat j)), .val (.int (Int32.ofNat ro.length)), .val (.int x), .val (.int (2147483647 : Int32)), .val (.int x)] [(.int (Int32.ofNat ro.length)), (.ref b3)]))
            refine own_go (fun _ kk_ => XS.iinc X23.here hx rfl (hb hby d2_75) rfl (l' := #[.val (.ref a), .val (.ref b), .val (.ref b3), .val (.int (Int32.ofNat i)), .val (.int (Int32.ofNat j)), .val (.int ((Int32.ofNat ro.length) + (1 : Int32))), .val (.int x), .val (.int (2147483647 : Int32)), .val (.int x)]) rfl kk_) ?_
            show own_G p e below s _ _ _ (T23.setTop (mkF m 78 #[.val (.ref a), .val (.ref b), .val (.ref b3), .val (.int (Int32.ofNat i)), .val (.int (Int32.ofNat j)), .val (.int ((Int32.ofNat ro.length) + (1 : Int32))), .val (.int x), .val (.int (2147483647 : Int32)), .val (.int x)] [(.int (Int32.ofNat ro.length)), (.ref b3)]))
            refine own_go (fun _ kk_ => XS.iload X23.here hx rfl (hb hby d2_78) rfl kk_) ?_
            show own_G p e below s _ _ _ (T23.setTop (mkF m 80 #[.val (.ref a), .val (.ref b), .val (.ref b3), .val (.int (Int32.ofNat i)), .val (.int (Int32.ofNat j)), .val (.int ((Int32.ofNat ro.length) + (1 : Int32))), .val (.int x), .val (.int (2147483647 : Int32)), .val (.int x)] [(.int x), (.int (Int32.ofNat ro.length)), (.ref b3)]))
            have Vp24 := Vo.pad (pad_rep (ro.map Value.int) (.int (0 : Int32)) 1)
            have Vc25 := Vp24
            obtain ⟨cl25, Ar25, q25, S25, M25, H25, G25⟩ := Vc25
            have hin25 := inb_of (j := (Int32.ofNat ro.length)) S25 ⟨own_nn (by omega), ((own_lt (by omega) (by omega)).mpr (by omega))⟩
            obtain ⟨T26, h26, X26, e26, W26, st26⟩ := stI X23 hx hZ e23 Ar25 (j := (Int32.ofNat ro.length)) hin25 (g := (mkF m 80 #[.val (.ref a), .val (.ref b), .val (.ref b3), .val (.int (Int32.ofNat i)), .val (.int (Int32.ofNat j)), .val (.int ((Int32.ofNat ro.length) + (1 : Int32))), .val (.int x), .val (.int (2147483647 : Int32)), .val (.int x)] [(.int x), (.int (Int32.ofNat ro.length)), (.ref b3)])) rfl rfl (hb hby d2_80)
            refine own_go st26 ?_
            have K26_ := Kh.wr W26 (Or.inr ko_b3)
            have V26_a := Va.other W26 ne_a_b3
            have V26_b := Vb.other W26 ne_b_b3
            have V26_b3 : Arv Z h26 b3 k3 .int (Int32.ofNat (la.length + lb.length)) ((ro.map Value.int ++ List.replicate 1 (Value.int (0 : Int32))).set ro.length (Value.int x)) (.int (0 : Int32)) := Arv.set Ar25 q25 S25 M25 H25 G25 rfl W26 ro.length (own_nat (by omega)) (by simp)
            have E26_b3 := Eo.wr W26
            have Z26 : n0 ≤ h26.size := by rw [W26.size]; exact Zh
            have N26 := Fr.snoc X26 N23 g_b3
            rw [own_snoc] at V26_b3
            show own_G p e below s _ _ _ (T26.setTop (mkF m 81 #[.val (.ref a), .val (.ref b), .val (.ref b3), .val (.int (Int32.ofNat i)), .val (.int (Int32.ofNat j)), .val (.int ((Int32.ofNat ro.length) + (1 : Int32))), .val (.int x), .val (.int (2147483647 : Int32)), .val (.int x)] []))
            refine own_go (fun _ kk_ => XS.iloadN X26.here hx rfl (hb hby d2_81) rfl kk_) ?_
            show own_G p e below s _ _ _ (T26.setTop (mkF m 82 #[.val (.ref a), .val (.ref b), .val (.ref b3), .val (.int (Int32.ofNat i)), .val (.int (Int32.ofNat j)), .val (.int ((Int32.ofNat ro.length) + (1 : Int32))), .val (.int x), .val (.int (2147483647 : Int32)), .val (.int x)] [(.int (Int32.ofNat i))]))
            refine own_go (fun _ kk_ => XS.iload X26.here hx rfl (hb hby d2_82) rfl kk_) ?_
            show own_G p e below s _ _ _ (T26.setTop (mkF m 84 #[.val (.ref a), .val (.ref b), .val (.ref b3), .val (.int (Int32.ofNat i)), .val (.int (Int32.ofNat j)), .val (.int ((Int32.ofNat ro.length) + (1 : Int32))), .val (.int x), .val (.int (2147483647 : Int32)), .val (.int x)] [(.int x), (.int (Int32.ofNat i))]))
            refine own_go (fun _ kk_ => XS.iload X26.here hx rfl (hb hby d2_84) rfl kk_) ?_
            show own_G p e below s _ _ _ (T26.setTop (mkF m 86 #[.val (.ref a), .val (.ref b), .val (.ref b3), .val (.int (Int32.ofNat i)), .val (.int (Int32.ofNat j)), .val (.int ((Int32.ofNat ro.length) + (1 : Int32))), .val (.int x), .val (.int (2147483647 : Int32)), .val (.int x)] [(.int x), (.int x), (.int (Int32.ofNat i))]))
            refine own_ic_neN X26 hx (pc := 86) (hb hby d2_86) rfl ?_
            show own_G p e below s _ _ _ (T26.setTop (mkF m 89 #[.val (.ref a), .val (.ref b), .val (.ref b3), .val (.int (Int32.ofNat i)), .val (.int (Int32.ofNat j)), .val (.int ((Int32.ofNat ro.length) + (1 : Int32))), .val (.int x), .val (.int (2147483647 : Int32)), .val (.int x)] [(.int (Int32.ofNat i))]))
            refine own_go (fun _ kk_ => XS.iconst X26.here hx rfl (hb hby d2_89) kk_) ?_
            show own_G p e below s _ _ _ (T26.setTop (mkF m 90 #[.val (.ref a), .val (.ref b), .val (.ref b3), .val (.int (Int32.ofNat i)), .val (.int (Int32.ofNat j)), .val (.int ((Int32.ofNat ro.length) + (1 : Int32))), .val (.int x), .val (.int (2147483647 : Int32)), .val (.int x)] [(.int (1 : Int32)), (.int (Int32.ofNat i))]))
            refine own_go (fun _ kk_ => XS.goto X26.here hx rfl (pc0 := 90) (pc' := 94) rfl (hb hby d2_90) (by decide) (by decide) kk_) ?_
            show own_G p e below s _ _ _ (T26.setTop (mkF m 94 #[.val (.ref a), .val (.ref b), .val (.ref b3), .val (.int (Int32.ofNat i)), .val (.int (Int32.ofNat j)), .val (.int ((Int32.ofNat ro.length) + (1 : Int32))), .val (.int x), .val (.int (2147483647 : Int32)), .val (.int x)] [(.int (1 : Int32)), (.int (Int32.ofNat i))]))
            refine own_go (fun _ kk_ => XS.iadd X26.here hx rfl (hb hby d2_94) rfl kk_) ?_
            show own_G p e below s _ _ _ (T26.setTop (mkF m 95 #[.val (.ref a), .val (.ref b), .val (.ref b3), .val (.int (Int32.ofNat i)), .val (.int (Int32.ofNat j)), .val (.int ((Int32.ofNat ro.length) + (1 : Int32))), .val (.int x), .val (.int (2147483647 : Int32)), .val (.int x)] [(.int ((Int32.ofNat i) + (1 : Int32)))]))
            refine own_go (fun _ kk_ => XS.istoreN X26.here hx rfl (hb hby d2_95) rfl (l' := #[.val (.ref a), .val (.ref b), .val (.ref b3), .val (.int ((Int32.ofNat i) + (1 : Int32))), .val (.int (Int32.ofNat j)), .val (.int ((Int32.ofNat ro.length) + (1 : Int32))), .val (.int x), .val (.int (2147483647 : Int32)), .val (.int x)]) rfl kk_) ?_
            show own_G p e below s _ _ _ (T26.setTop (mkF m 96 #[.val (.ref a), .val (.ref b), .val (.ref b3), .val (.int ((Int32.ofNat i) + (1 : Int32))), .val (.int (Int32.ofNat j)), .val (.int ((Int32.ofNat ro.length) + (1 : Int32))), .val (.int x), .val (.int (2147483647 : Int32)), .val (.int x)] []))
            refine own_go (fun _ kk_ => XS.iload X26.here hx rfl (hb hby d2_96) rfl kk_) ?_
            show own_G p e below s _ _ _ (T26.setTop (mkF m 98 #[.val (.ref a), .val (.ref b), .val (.ref b3), .val (.int ((Int32.ofNat i) + (1 : Int32))), .val (.int (Int32.ofNat j)), .val (.int ((Int32.ofNat ro.length) + (1 : Int32))), .val (.int x), .val (.int (2147483647 : Int32)), .val (.int x)] [(.int (Int32.ofNat j))]))
            refine own_go (fun _ kk_ => XS.iload X26.here hx rfl (hb hby d2_98) rfl kk_) ?_
            show own_G p e below s _ _ _ (T26.setTop (mkF m 100 #[.val (.ref a), .val (.ref b), .val (.ref b3), .val (.int ((Int32.ofNat i) + (1 : Int32))), .val (.int (Int32.ofNat j)), .val (.int ((Int32.ofNat ro.length) + (1 : Int32))), .val (.int x), .val (.int (2147483647 : Int32)), .val (.int x)] [(.int (2147483647 : Int32)), (.int (Int32.ofNat j))]))
            refine own_go (fun _ kk_ => XS.iload X26.here hx rfl (hb hby d2_100) rfl kk_) ?_
            show own_G p e below s _ _ _ (T26.setTop (mkF m 102 #[.val (.ref a), .val (.ref b), .val (.ref b3), .val (.int ((Int32.ofNat i) + (1 : Int32))), .val (.int (Int32.ofNat j)), .val (.int ((Int32.ofNat ro.length) + (1 : Int32))), .val (.int x), .val (.int (2147483647 : Int32)), .val (.int x)] [(.int x), (.int (2147483647 : Int32)), (.int (Int32.ofNat j))]))
            refine own_ic_neY X26 hx (pc := 102) (pc' := 109) (hb hby d2_102) (by decide) (by decide) (own_ne' hq) ?_
            show own_G p e below s _ _ _ (T26.setTop (mkF m 109 #[.val (.ref a), .val (.ref b), .val (.ref b3), .val (.int ((Int32.ofNat i) + (1 : Int32))), .val (.int (Int32.ofNat j)), .val (.int ((Int32.ofNat ro.length) + (1 : Int32))), .val (.int x), .val (.int (2147483647 : Int32)), .val (.int x)] [(.int (Int32.ofNat j))]))
            refine own_go (fun _ kk_ => XS.iconst X26.here hx rfl (hb hby d2_109) kk_) ?_
            show own_G p e below s _ _ _ (T26.setTop (mkF m 110 #[.val (.ref a), .val (.ref b), .val (.ref b3), .val (.int ((Int32.ofNat i) + (1 : Int32))), .val (.int (Int32.ofNat j)), .val (.int ((Int32.ofNat ro.length) + (1 : Int32))), .val (.int x), .val (.int (2147483647 : Int32)), .val (.int x)] [(.int (0 : Int32)), (.int (Int32.ofNat j))]))
            refine own_go (fun _ kk_ => XS.iadd X26.here hx rfl (hb hby d2_110) rfl kk_) ?_
            show own_G p e below s _ _ _ (T26.setTop (mkF m 111 #[.val (.ref a), .val (.ref b), .val (.ref b3), .val (.int ((Int32.ofNat i) + (1 : Int32))), .val (.int (Int32.ofNat j)), .val (.int ((Int32.ofNat ro.length) + (1 : Int32))), .val (.int x), .val (.int (2147483647 : Int32)), .val (.int x)] [(.int ((Int32.ofNat j) + (0 : Int32)))]))
            refine own_go (fun _ kk_ => XS.istore X26.here hx rfl (hb hby d2_111) rfl (l' := #[.val (.ref a), .val (.ref b), .val (.ref b3), .val (.int ((Int32.ofNat i) + (1 : Int32))), .val (.int ((Int32.ofNat j) + (0 : Int32))), .val (.int ((Int32.ofNat ro.length) + (1 : Int32))), .val (.int x), .val (.int (2147483647 : Int32)), .val (.int x)]) rfl kk_) ?_
            show own_G p e below s _ _ _ (T26.setTop (mkF m 113 #[.val (.ref a), .val (.ref b), .val (.ref b3), .val (.int ((Int32.ofNat i) + (1 : Int32))), .val (.int ((Int32.ofNat j) + (0 : Int32))), .val (.int ((Int32.ofNat ro.length) + (1 : Int32))), .val (.int x), .val (.int (2147483647 : Int32)), .val (.int x)] []))
            refine own_go (fun _ kk_ => XS.goto X26.here hx rfl (pc0 := 113) (pc' := 16) rfl (hb hby d2_113) (by decide) (by decide) kk_) ?_
            show own_G p e below s _ _ _ (T26.setTop (mkF m 16 #[.val (.ref a), .val (.ref b), .val (.ref b3), .val (.int ((Int32.ofNat i) + (1 : Int32))), .val (.int ((Int32.ofNat j) + (0 : Int32))), .val (.int ((Int32.ofNat ro.length) + (1 : Int32))), .val (.int x), .val (.int (2147483647 : Int32)), .val (.int x)] []))
            rw [own_succ i, own_zero (Int32.ofNat j), own_succ ro.length]
            have hlen : (ro ++ [x]).length = ro.length + 1 := by simp
            rw [← hlen]
            have hf2 : ((la.drop (i + 1)).length + (lb.drop j).length) + 1 ≤ fuel := by
              rw [da2, hB]
              try simp only [List.length_cons, List.length_nil]
              omega
            refine ih ((la.drop (i + 1)).length + (lb.drop j).length) (by omega) (ro ++ [x]) (i + 1) j _ _ _ _ _ _ (One.val rfl) (One.val rfl) (One.val rfl) rfl (by rw [hlen]; omega) (by rw [hlen]; omega) (by rw [hlen]; omega) ?_ X26 N26 e26 Z26 K26_ V26_a V26_b V26_b3 E26_b3
            rw [da2, hB]
            exact (own_inv_l inv hq (Or.inl rfl))
          · rw [own_min_e hq]
            show own_G p e below s _ _ _ (T23.setTop (mkF m 70 #[.val (.ref a), .val (.ref b), .val (.ref b3), .val (.int (Int32.ofNat i)), .val (.int (Int32.ofNat j)), .val (.int (Int32.ofNat ro.length)), .val (.int x), .val (.int (2147483647 : Int32)), s8] [(.int x)]))
            refine own_go (fun _ kk_ => XS.istoreS X23.here hx rfl (hb hby d2_70) rfl rfl hs8 kk_) ?_
            show own_G p e below s _ _ _ (T23.setTop (mkF m 72 #[.val (.ref a), .val (.ref b), .val (.ref b3), .val (.int (Int32.ofNat i)), .val (.int (Int32.ofNat j)), .val (.int (Int32.ofNat ro.length)), .val (.int x), .val (.int (2147483647 : Int32)), .val (.int x)] []))
            refine own_go (fun _ kk_ => XS.aloadN X23.here hx rfl (hb hby d2_72) rfl rfl kk_) ?_
            show own_G p e below s _ _ _ (T23.setTop (mkF m 73 #[.val (.ref a), .val (.ref b), .val (.ref b3), .val (.int (Int32.ofNat i)), .val (.int (Int32.ofNat j)), .val (.int (Int32.ofNat ro.length)), .val (.int x), .val (.int (2147483647 : Int32)), .val (.int x)] [(.ref b3)]))
            refine own_go (fun _ kk_ => XS.iload X23.here hx rfl (hb hby d2_73) rfl kk_) ?_
            show own_G p e below s _ _ _ (T23.setTop (mkF m 75 #[.val (.ref a), .val (.ref b), .val (.ref b3), .val (.int (Int32.ofNat i)), .val (.int (Int32.ofNat j)), .val (.int (Int32.ofNat ro.length)), .val (.int x), .val (.int (2147483647 : Int32)), .val (.int x)] [(.int (Int32.ofNat ro.length)), (.ref b3)]))
            refine own_go (fun _ kk_ => XS.iinc X23.here hx rfl (hb hby d2_75) rfl (l' := #[.val (.ref a), .val (.ref b), .val (.ref b3), .val (.int (Int32.ofNat i)), .val (.int (Int32.ofNat j)), .val (.int ((Int32.ofNat ro.length) + (1 : Int32))), .val (.int x), .val (.int (2147483647 : Int32)), .val (.int x)]) rfl kk_) ?_
            show own_G p e below s _ _ _ (T23.setTop (mkF m 78 #[.val (.ref a), .val (.ref b), .val (.ref b3), .val (.int (Int32.ofNat i)), .val (.int (Int32.ofNat j)), .val (.int ((Int32.ofNat ro.length) + (1 : Int32))), .val (.int x), .val (.int (2147483647 : Int32)), .val (.int x)] [(.int (Int32.ofNat ro.length)), (.ref b3)]))
            refine own_go (fun _ kk_ => XS.iload X23.here hx rfl (hb hby d2_78) rfl kk_) ?_
            show own_G p e below s _ _ _ (T23.setTop (mkF m 80 #[.val (.ref a), .val (.ref b), .val (.ref b3), .val (.int (Int32.ofNat i)), .val (.int (Int32.ofNat j)), .val (.int ((Int32.ofNat ro.length) + (1 : Int32))), .val (.int x), .val (.int (2147483647 : Int32)), .val (.int x)] [(.int x), (.int (Int32.ofNat ro.length)), (.ref b3)]))
            have Vp27 := Vo.pad (pad_rep (ro.map Value.int) (.int (0 : Int32)) 1)
            have Vc28 := Vp27
            obtain ⟨cl28, Ar28, q28, S28, M28, H28, G28⟩ := Vc28
            have hin28 := inb_of (j := (Int32.ofNat ro.length)) S28 ⟨own_nn (by omega), ((own_lt (by omega) (by omega)).mpr (by omega))⟩
            obtain ⟨T29, h29, X29, e29, W29, st29⟩ := stI X23 hx hZ e23 Ar28 (j := (Int32.ofNat ro.length)) hin28 (g := (mkF m 80 #[.val (.ref a), .val (.ref b), .val (.ref b3), .val (.int (Int32.ofNat i)), .val (.int (Int32.ofNat j)), .val (.int ((Int32.ofNat ro.length) + (1 : Int32))), .val (.int x), .val (.int (2147483647 : Int32)), .val (.int x)] [(.int x), (.int (Int32.ofNat ro.length)), (.ref b3)])) rfl rfl (hb hby d2_80)
            refine own_go st29 ?_
            have K29_ := Kh.wr W29 (Or.inr ko_b3)
            have V29_a := Va.other W29 ne_a_b3
            have V29_b := Vb.other W29 ne_b_b3
            have V29_b3 : Arv Z h29 b3 k3 .int (Int32.ofNat (la.length + lb.length)) ((ro.map Value.int ++ List.replicate 1 (Value.int (0 : Int32))).set ro.length (Value.int x)) (.int (0 : Int32)) := Arv.set Ar28 q28 S28 M28 H28 G28 rfl W29 ro.length (own_nat (by omega)) (by simp)
            have E29_b3 := Eo.wr W29
            have Z29 : n0 ≤ h29.size := by rw [W29.size]; exact Zh
            have N29 := Fr.snoc X29 N23 g_b3
            rw [own_snoc] at V29_b3
            show own_G p e below s _ _ _ (T29.setTop (mkF m 81 #[.val (.ref a), .val (.ref b), .val (.ref b3), .val (.int (Int32.ofNat i)), .val (.int (Int32.ofNat j)), .val (.int ((Int32.ofNat ro.length) + (1 : Int32))), .val (.int x), .val (.int (2147483647 : Int32)), .val (.int x)] []))
            refine own_go (fun _ kk_ => XS.iloadN X29.here hx rfl (hb hby d2_81) rfl kk_) ?_
            show own_G p e below s _ _ _ (T29.setTop (mkF m 82 #[.val (.ref a), .val (.ref b), .val (.ref b3), .val (.int (Int32.ofNat i)), .val (.int (Int32.ofNat j)), .val (.int ((Int32.ofNat ro.length) + (1 : Int32))), .val (.int x), .val (.int (2147483647 : Int32)), .val (.int x)] [(.int (Int32.ofNat i))]))
            refine own_go (fun _ kk_ => XS.iload X29.here hx rfl (hb hby d2_82) rfl kk_) ?_
            show own_G p e below s _ _ _ (T29.setTop (mkF m 84 #[.val (.ref a), .val (.ref b), .val (.ref b3), .val (.int (Int32.ofNat i)), .val (.int (Int32.ofNat j)), .val (.int ((Int32.ofNat ro.length) + (1 : Int32))), .val (.int x), .val (.int (2147483647 : Int32)), .val (.int x)] [(.int x), (.int (Int32.ofNat i))]))
            refine own_go (fun _ kk_ => XS.iload X29.here hx rfl (hb hby d2_84) rfl kk_) ?_
            show own_G p e below s _ _ _ (T29.setTop (mkF m 86 #[.val (.ref a), .val (.ref b), .val (.ref b3), .val (.int (Int32.ofNat i)), .val (.int (Int32.ofNat j)), .val (.int ((Int32.ofNat ro.length) + (1 : Int32))), .val (.int x), .val (.int (2147483647 : Int32)), .val (.int x)] [(.int x), (.int x), (.int (Int32.ofNat i))]))
            refine own_ic_neN X29 hx (pc := 86) (hb hby d2_86) rfl ?_
            show own_G p e below s _ _ _ (T29.setTop (mkF m 89 #[.val (.ref a), .val (.ref b), .val (.ref b3), .val (.int (Int32.ofNat i)), .val (.int (Int32.ofNat j)), .val (.int ((Int32.ofNat ro.length) + (1 : Int32))), .val (.int x), .val (.int (2147483647 : Int32)), .val (.int x)] [(.int (Int32.ofNat i))]))
            refine own_go (fun _ kk_ => XS.iconst X29.here hx rfl (hb hby d2_89) kk_) ?_
            show own_G p e below s _ _ _ (T29.setTop (mkF m 90 #[.val (.ref a), .val (.ref b), .val (.ref b3), .val (.int (Int32.ofNat i)), .val (.int (Int32.ofNat j)), .val (.int ((Int32.ofNat ro.length) + (1 : Int32))), .val (.int x), .val (.int (2147483647 : Int32)), .val (.int x)] [(.int (1 : Int32)), (.int (Int32.ofNat i))]))
            refine own_go (fun _ kk_ => XS.goto X29.here hx rfl (pc0 := 90) (pc' := 94) rfl (hb hby d2_90) (by decide) (by decide) kk_) ?_
            show own_G p e below s _ _ _ (T29.setTop (mkF m 94 #[.val (.ref a), .val (.ref b), .val (.ref b3), .val (.int (Int32.ofNat i)), .val (.int (Int32.ofNat j)), .val (.int ((Int32.ofNat ro.length) + (1 : Int32))), .val (.int x), .val (.int (2147483647 : Int32)), .val (.int x)] [(.int (1 : Int32)), (.int (Int32.ofNat i))]))
            refine own_go (fun _ kk_ => XS.iadd X29.here hx rfl (hb hby d2_94) rfl kk_) ?_
            show own_G p e below s _ _ _ (T29.setTop (mkF m 95 #[.val (.ref a), .val (.ref b), .val (.ref b3), .val (.int (Int32.ofNat i)), .val (.int (Int32.ofNat j)), .val (.int ((Int32.ofNat ro.length) + (1 : Int32))), .val (.int x), .val (.int (2147483647 : Int32)), .val (.int x)] [(.int ((Int32.ofNat i) + (1 : Int32)))]))
            refine own_go (fun _ kk_ => XS.istoreN X29.here hx rfl (hb hby d2_95) rfl (l' := #[.val (.ref a), .val (.ref b), .val (.ref b3), .val (.int ((Int32.ofNat i) + (1 : Int32))), .val (.int (Int32.ofNat j)), .val (.int ((Int32.ofNat ro.length) + (1 : Int32))), .val (.int x), .val (.int (2147483647 : Int32)), .val (.int x)]) rfl kk_) ?_
            show own_G p e below s _ _ _ (T29.setTop (mkF m 96 #[.val (.ref a), .val (.ref b), .val (.ref b3), .val (.int ((Int32.ofNat i) + (1 : Int32))), .val (.int (Int32.ofNat j)), .val (.int ((Int32.ofNat ro.length) + (1 : Int32))), .val (.int x), .val (.int (2147483647 : Int32)), .val (.int x)] []))
            refine own_go (fun _ kk_ => XS.iload X29.here hx rfl (hb hby d2_96) rfl kk_) ?_
            show own_G p e below s _ _ _ (T29.setTop (mkF m 98 #[.val (.ref a), .val (.ref b), .val (.ref b3), .val (.int ((Int32.ofNat i) + (1 : Int32))), .val (.int (Int32.ofNat j)), .val (.int ((Int32.ofNat ro.length) + (1 : Int32))), .val (.int x), .val (.int (2147483647 : Int32)), .val (.int x)] [(.int (Int32.ofNat j))]))
            refine own_go (fun _ kk_ => XS.iload X29.here hx rfl (hb hby d2_98) rfl kk_) ?_
            show own_G p e below s _ _ _ (T29.setTop (mkF m 100 #[.val (.ref a), .val (.ref b), .val (.ref b3), .val (.int ((Int32.ofNat i) + (1 : Int32))), .val (.int (Int32.ofNat j)), .val (.int ((Int32.ofNat ro.length) + (1 : Int32))), .val (.int x), .val (.int (2147483647 : Int32)), .val (.int x)] [(.int (2147483647 : Int32)), (.int (Int32.ofNat j))]))
            refine own_go (fun _ kk_ => XS.iload X29.here hx rfl (hb hby d2_100) rfl kk_) ?_
            show own_G p e below s _ _ _ (T29.setTop (mkF m 102 #[.val (.ref a), .val (.ref b), .val (.ref b3), .val (.int ((Int32.ofNat i) + (1 : Int32))), .val (.int (Int32.ofNat j)), .val (.int ((Int32.ofNat ro.length) + (1 : Int32))), .val (.int x), .val (.int (2147483647 : Int32)), .val (.int x)] [(.int x), (.int (2147483647 : Int32)), (.int (Int32.ofNat j))]))
            refine own_ic_neN X29 hx (pc := 102) (hb hby d2_102) hq.symm ?_
            show own_G p e below s _ _ _ (T29.setTop (mkF m 105 #[.val (.ref a), .val (.ref b), .val (.ref b3), .val (.int ((Int32.ofNat i) + (1 : Int32))), .val (.int (Int32.ofNat j)), .val (.int ((Int32.ofNat ro.length) + (1 : Int32))), .val (.int x), .val (.int (2147483647 : Int32)), .val (.int x)] [(.int (Int32.ofNat j))]))
            refine own_go (fun _ kk_ => XS.iconst X29.here hx rfl (hb hby d2_105) kk_) ?_
            show own_G p e below s _ _ _ (T29.setTop (mkF m 106 #[.val (.ref a), .val (.ref b), .val (.ref b3), .val (.int ((Int32.ofNat i) + (1 : Int32))), .val (.int (Int32.ofNat j)), .val (.int ((Int32.ofNat ro.length) + (1 : Int32))), .val (.int x), .val (.int (2147483647 : Int32)), .val (.int x)] [(.int (1 : Int32)), (.int (Int32.ofNat j))]))
            refine own_go (fun _ kk_ => XS.goto X29.here hx rfl (pc0 := 106) (pc' := 110) rfl (hb hby d2_106) (by decide) (by decide) kk_) ?_
            show own_G p e below s _ _ _ (T29.setTop (mkF m 110 #[.val (.ref a), .val (.ref b), .val (.ref b3), .val (.int ((Int32.ofNat i) + (1 : Int32))), .val (.int (Int32.ofNat j)), .val (.int ((Int32.ofNat ro.length) + (1 : Int32))), .val (.int x), .val (.int (2147483647 : Int32)), .val (.int x)] [(.int (1 : Int32)), (.int (Int32.ofNat j))]))
            refine own_go (fun _ kk_ => XS.iadd X29.here hx rfl (hb hby d2_110) rfl kk_) ?_
            show own_G p e below s _ _ _ (T29.setTop (mkF m 111 #[.val (.ref a), .val (.ref b), .val (.ref b3), .val (.int ((Int32.ofNat i) + (1 : Int32))), .val (.int (Int32.ofNat j)), .val (.int ((Int32.ofNat ro.length) + (1 : Int32))), .val (.int x), .val (.int (2147483647 : Int32)), .val (.int x)] [(.int ((Int32.ofNat j) + (1 : Int32)))]))
            refine own_go (fun _ kk_ => XS.istore X29.here hx rfl (hb hby d2_111) rfl (l' := #[.val (.ref a), .val (.ref b), .val (.ref b3), .val (.int ((Int32.ofNat i) + (1 : Int32))), .val (.int ((Int32.ofNat j) + (1 : Int32))), .val (.int ((Int32.ofNat ro.length) + (1 : Int32))), .val (.int x), .val (.int (2147483647 : Int32)), .val (.int x)]) rfl kk_) ?_
            show own_G p e below s _ _ _ (T29.setTop (mkF m 113 #[.val (.ref a), .val (.ref b), .val (.ref b3), .val (.int ((Int32.ofNat i) + (1 : Int32))), .val (.int ((Int32.ofNat j) + (1 : Int32))), .val (.int ((Int32.ofNat ro.length) + (1 : Int32))), .val (.int x), .val (.int (2147483647 : Int32)), .val (.int x)] []))
            refine own_go (fun _ kk_ => XS.goto X29.here hx rfl (pc0 := 113) (pc' := 16) rfl (hb hby d2_113) (by decide) (by decide) kk_) ?_
            show own_G p e below s _ _ _ (T29.setTop (mkF m 16 #[.val (.ref a), .val (.ref b), .val (.ref b3), .val (.int ((Int32.ofNat i) + (1 : Int32))), .val (.int ((Int32.ofNat j) + (1 : Int32))), .val (.int ((Int32.ofNat ro.length) + (1 : Int32))), .val (.int x), .val (.int (2147483647 : Int32)), .val (.int x)] []))
            rw [own_succ i, own_succ j, own_succ ro.length]
            have hlen : (ro ++ [x]).length = ro.length + 1 := by simp
            rw [← hlen]
            have hf2 : ((la.drop (i + 1)).length + (lb.drop (j + 1)).length) + 1 ≤ fuel := by
              rw [da2, db2]
              try simp only [List.length_cons, List.length_nil]
              omega
            refine ih ((la.drop (i + 1)).length + (lb.drop (j + 1)).length) (by omega) (ro ++ [x]) (i + 1) (j + 1) _ _ _ _ _ _ (One.val rfl) (One.val rfl) (One.val rfl) rfl (by rw [hlen]; omega) (by rw [hlen]; omega) (by rw [hlen]; omega) ?_ X29 N29 e29 Z29 K29_ V29_a V29_b V29_b3 E29_b3
            rw [da2, db2]
            exact (by rw [hq] at inv ⊢; exact (own_inv_lm inv).2)
          · rw [own_min_r hq]
            exact absurd hq (own_nmax _)
        | cons y B' =>
          rw [hA, hB] at inv hfu
          simp only [List.length_cons, List.length_nil] at hfu
          have da := own_dl hA
          have db := own_dl hB
          obtain ⟨da1, da2⟩ := da
          obtain ⟨db1, db2⟩ := db
          show own_G p e below s _ _ _ (T.setTop (mkF m 16 #[.val (.ref a), .val (.ref b), .val (.ref b3), .val (.int (Int32.ofNat i)), .val (.int (Int32.ofNat j)), .val (.int (Int32.ofNat ro.length)), s6, s7, s8] []))
          refine own_go (fun _ kk_ => XS.iloadN X.here hx rfl (hb hby d2_16) rfl kk_) ?_
          show own_G p e below s _ _ _ (T.setTop (mkF m 17 #[.val (.ref a), .val (.ref b), .val (.ref b3), .val (.int (Int32.ofNat i)), .val (.int (Int32.ofNat j)), .val (.int (Int32.ofNat ro.length)), s6, s7, s8] [(.int (Int32.ofNat i))]))
          refine own_go (fun _ kk_ => XS.aloadN X.here hx rfl (hb hby d2_17) rfl rfl kk_) ?_
          show own_G p e below s _ _ _ (T.setTop (mkF m 18 #[.val (.ref a), .val (.ref b), .val (.ref b3), .val (.int (Int32.ofNat i)), .val (.int (Int32.ofNat j)), .val (.int (Int32.ofNat ro.length)), s6, s7, s8] [(.ref a), (.int (Int32.ofNat i))]))
          have Vc30 := Va
          obtain ⟨cl30, Ar30, q30, S30, M30, H30, G30⟩ := Vc30
          refine own_go (X.arraylength hx (cell := cl30) (by rw [e']; exact Ar30.1) (State.isArrayOf_alike hZ.alike Ar30.2.1) (g := (mkF m 18 #[.val (.ref a), .val (.ref b), .val (.ref b3), .val (.int (Int32.ofNat i)), .val (.int (Int32.ofNat j)), .val (.int (Int32.ofNat ro.length)), s6, s7, s8] [(.ref a), (.int (Int32.ofNat i))])) rfl (rest := [(.int (Int32.ofNat i))]) rfl (hb hby d2_18)) ?_
          rw [len_of S30 M30]
          show own_G p e below s _ _ _ (T.setTop (mkF m 19 #[.val (.ref a), .val (.ref b), .val (.ref b3), .val (.int (Int32.ofNat i)), .val (.int (Int32.ofNat j)), .val (.int (Int32.ofNat ro.length)), s6, s7, s8] [(.int (Int32.ofNat la.length)), (.int (Int32.ofNat i))]))
          refine own_ic_ltY X hx (pc := 19) (pc' := 29) (hb hby d2_19) (by decide) (by decide) ((own_lt (by omega) (by omega)).mpr (by omega)) ?_
          show own_G p e below s _ _ _ (T.setTop (mkF m 29 #[.val (.ref a), .val (.ref b), .val (.ref b3), .val (.int (Int32.ofNat i)), .val (.int (Int32.ofNat j)), .val (.int (Int32.ofNat ro.length)), s6, s7, s8] []))
          refine own_go (fun _ kk_ => XS.iloadN X.here hx rfl (hb hby d2_29) rfl kk_) ?_
          show own_G p e below s _ _ _ (T.setTop (mkF m 30 #[.val (.ref a), .val (.ref b), .val (.ref b3), .val (.int (Int32.ofNat i)), .val (.int (Int32.ofNat j)), .val (.int (Int32.ofNat ro.length)), s6, s7, s8] [(.int (Int32.ofNat i))]))
          refine own_go (fun _ kk_ => XS.aloadN X.here hx rfl (hb hby d2_30) rfl rfl kk_) ?_
          show own_G p e below s _ _ _ (T.setTop (mkF m 31 #[.val (.ref a), .val (.ref b), .val (.ref b3), .val (.int (Int32.ofNat i)), .val (.int (Int32.ofNat j)), .val (.int (Int32.ofNat ro.length)), s6, s7, s8] [(.ref a), (.int (Int32.ofNat i))]))
          have Vc31 := Va
          obtain ⟨cl31, Ar31, q31, S31, M31, H31, G31⟩ := Vc31
          refine own_go (X.arraylength hx (cell := cl31) (by rw [e']; exact Ar31.1) (State.isArrayOf_alike hZ.alike Ar31.2.1) (g := (mkF m 31 #[.val (.ref a), .val (.ref b), .val (.ref b3), .val (.int (Int32.ofNat i)), .val (.int (Int32.ofNat j)), .val (.int (Int32.ofNat ro.length)), s6, s7, s8] [(.ref a), (.int (Int32.ofNat i))])) rfl (rest := [(.int (Int32.ofNat i))]) rfl (hb hby d2_31)) ?_
          rw [len_of S31 M31]
          show own_G p e below s _ _ _ (T.setTop (mkF m 32 #[.val (.ref a), .val (.ref b), .val (.ref b3), .val (.int (Int32.ofNat i)), .val (.int (Int32.ofNat j)), .val (.int (Int32.ofNat ro.length)), s6, s7, s8] [(.int (Int32.ofNat la.length)), (.int (Int32.ofNat i))]))
          refine own_ic_geN X hx (pc := 32) (hb hby d2_32) ((own_lt (by omega) (by omega)).mpr (by omega)) ?_
          show own_G p e below s _ _ _ (T.setTop (mkF m 35 #[.val (.ref a), .val (.ref b), .val (.ref b3), .val (.int (Int32.ofNat i)), .val (.int (Int32.ofNat j)), .val (.int (Int32.ofNat ro.length)), s6, s7, s8] []))
          refine own_go (fun _ kk_ => XS.aloadN X.here hx rfl (hb hby d2_35) rfl rfl kk_) ?_
          show own_G p e below s _ _ _ (T.setTop (mkF m 36 #[.val (.ref a), .val (.ref b), .val (.ref b3), .val (.int (Int32.ofNat i)), .val (.int (Int32.ofNat j)), .val (.int (Int32.ofNat ro.length)), s6, s7, s8] [(.ref a)]))
          refine own_go (fun _ kk_ => XS.iloadN X.here hx rfl (hb hby d2_36) rfl kk_) ?_
          show own_G p e below s _ _ _ (T.setTop (mkF m 37 #[.val (.ref a), .val (.ref b), .val (.ref b3), .val (.int (Int32.ofNat i)), .val (.int (Int32.ofNat j)), .val (.int (Int32.ofNat ro.length)), s6, s7, s8] [(.int (Int32.ofNat i)), (.ref a)]))
          have Vc32 := Va
          obtain ⟨cl32, Ar32, q32, S32, M32, H32, G32⟩ := Vc32
          have hin32 := inb_of (j := (Int32.ofNat i)) S32 ⟨own_nn (by omega), ((own_lt (by omega) (by omega)).mpr (by omega))⟩
          have hat32 := H32.at hin32 (v := (.int x)) (by rw [own_nat (by omega)]; exact own_at la hA _)
          refine own_go (X.iaload hx (j := (Int32.ofNat i)) (v := (.int x)) (by rw [e']; exact Ar32.1) (State.isArrayOf_alike hZ.alike Ar32.2.1) Ar32.2.2 hin32 hat32 (g := (mkF m 37 #[.val (.ref a), .val (.ref b), .val (.ref b3), .val (.int (Int32.ofNat i)), .val (.int (Int32.ofNat j)), .val (.int (Int32.ofNat ro.length)), s6, s7, s8] [(.int (Int32.ofNat i)), (.ref a)])) rfl rfl (hb hby d2_37)) ?_
          show own_G p e below s _ _ _ (T.setTop (mkF m 38 #[.val (.ref a), .val (.ref b), .val (.ref b3), .val (.int (Int32.ofNat i)), .val (.int (Int32.ofNat j)), .val (.int (Int32.ofNat ro.length)), s6, s7, s8] [(.int x)]))
          refine own_go (fun _ kk_ => XS.goto X.here hx rfl (pc0 := 38) (pc' := 43) rfl (hb hby d2_38) (by decide) (by decide) kk_) ?_
          show own_G p e below s _ _ _ (T.setTop (mkF m 43 #[.val (.ref a), .val (.ref b), .val (.ref b3), .val (.int (Int32.ofNat i)), .val (.int (Int32.ofNat j)), .val (.int (Int32.ofNat ro.length)), s6, s7, s8] [(.int x)]))
          refine own_go (fun _ kk_ => XS.istoreS X.here hx rfl (hb hby d2_43) rfl rfl hs6 kk_) ?_
          show own_G p e below s _ _ _ (T.setTop (mkF m 45 #[.val (.ref a), .val (.ref b), .val (.ref b3), .val (.int (Int32.ofNat i)), .val (.int (Int32.ofNat j)), .val (.int (Int32.ofNat ro.length)), .val (.int x), s7, s8] []))
          refine own_go (fun _ kk_ => XS.iload X.here hx rfl (hb hby d2_45) rfl kk_) ?_
          show own_G p e below s _ _ _ (T.setTop (mkF m 47 #[.val (.ref a), .val (.ref b), .val (.ref b3), .val (.int (Int32.ofNat i)), .val (.int (Int32.ofNat j)), .val (.int (Int32.ofNat ro.length)), .val (.int x), s7, s8] [(.int (Int32.ofNat j))]))
          refine own_go (fun _ kk_ => XS.aloadN X.here hx rfl (hb hby d2_47) rfl rfl kk_) ?_
          show own_G p e below s _ _ _ (T.setTop (mkF m 48 #[.val (.ref a), .val (.ref b), .val (.ref b3), .val (.int (Int32.ofNat i)), .val (.int (Int32.ofNat j)), .val (.int (Int32.ofNat ro.length)), .val (.int x), s7, s8] [(.ref b), (.int (Int32.ofNat j))]))
          have Vc33 := Vb
          obtain ⟨cl33, Ar33, q33, S33, M33, H33, G33⟩ := Vc33
          refine own_go (X.arraylength hx (cell := cl33) (by rw [e']; exact Ar33.1) (State.isArrayOf_alike hZ.alike Ar33.2.1) (g := (mkF m 48 #[.val (.ref a), .val (.ref b), .val (.ref b3), .val (.int (Int32.ofNat i)), .val (.int (Int32.ofNat j)), .val (.int (Int32.ofNat ro.length)), .val (.int x), s7, s8] [(.ref b), (.int (Int32.ofNat j))])) rfl (rest := [(.int (Int32.ofNat j))]) rfl (hb hby d2_48)) ?_
          rw [len_of S33 M33]
          show own_G p e below s _ _ _ (T.setTop (mkF m 49 #[.val (.ref a), .val (.ref b), .val (.ref b3), .val (.int (Int32.ofNat i)), .val (.int (Int32.ofNat j)), .val (.int (Int32.ofNat ro.length)), .val (.int x), s7, s8] [(.int (Int32.ofNat lb.length)), (.int (Int32.ofNat j))]))
          refine own_ic_geN X hx (pc := 49) (hb hby d2_49) ((own_lt (by omega) (by omega)).mpr (by omega)) ?_
          show own_G p e below s _ _ _ (T.setTop (mkF m 52 #[.val (.ref a), .val (.ref b), .val (.ref b3), .val (.int (Int32.ofNat i)), .val (.int (Int32.ofNat j)), .val (.int (Int32.ofNat ro.length)), .val (.int x), s7, s8] []))
          refine own_go (fun _ kk_ => XS.aloadN X.here hx rfl (hb hby d2_52) rfl rfl kk_) ?_
          show own_G p e below s _ _ _ (T.setTop (mkF m 53 #[.val (.ref a), .val (.ref b), .val (.ref b3), .val (.int (Int32.ofNat i)), .val (.int (Int32.ofNat j)), .val (.int (Int32.ofNat ro.length)), .val (.int x), s7, s8] [(.ref b)]))
          refine own_go (fun _ kk_ => XS.iload X.here hx rfl (hb hby d2_53) rfl kk_) ?_
          show own_G p e below s _ _ _ (T.setTop (mkF m 55 #[.val (.ref a), .val (.ref b), .val (.ref b3), .val (.int (Int32.ofNat i)), .val (.int (Int32.ofNat j)), .val (.int (Int32.ofNat ro.length)), .val (.int x), s7, s8] [(.int (Int32.ofNat j)), (.ref b)]))
          have Vc34 := Vb
          obtain ⟨cl34, Ar34, q34, S34, M34, H34, G34⟩ := Vc34
          have hin34 := inb_of (j := (Int32.ofNat j)) S34 ⟨own_nn (by omega), ((own_lt (by omega) (by omega)).mpr (by omega))⟩
          have hat34 := H34.at hin34 (v := (.int y)) (by rw [own_nat (by omega)]; exact own_at lb hB _)
          refine own_go (X.iaload hx (j := (Int32.ofNat j)) (v := (.int y)) (by rw [e']; exact Ar34.1) (State.isArrayOf_alike hZ.alike Ar34.2.1) Ar34.2.2 hin34 hat34 (g := (mkF m 55 #[.val (.ref a), .val (.ref b), .val (.ref b3), .val (.int (Int32.ofNat i)), .val (.int (Int32.ofNat j)), .val (.int (Int32.ofNat ro.length)), .val (.int x), s7, s8] [(.int (Int32.ofNat j)), (.ref b)])) rfl rfl (hb hby d2_55)) ?_
          show own_G p e below s _ _ _ (T.setTop (mkF m 56 #[.val (.ref a), .val (.ref b), .val (.ref b3), .val (.int (Int32.ofNat i)), .val (.int (Int32.ofNat j)), .val (.int (Int32.ofNat ro.length)), .val (.int x), s7, s8] [(.int y)]))
          refine own_go (fun _ kk_ => XS.goto X.here hx rfl (pc0 := 56) (pc' := 61) rfl (hb hby d2_56) (by decide) (by decide) kk_) ?_
          show own_G p e below s _ _ _ (T.setTop (mkF m 61 #[.val (.ref a), .val (.ref b), .val (.ref b3), .val (.int (Int32.ofNat i)), .val (.int (Int32.ofNat j)), .val (.int (Int32.ofNat ro.length)), .val (.int x), s7, s8] [(.int y)]))
          refine own_go (fun _ kk_ => XS.istoreS X.here hx rfl (hb hby d2_61) rfl rfl hs7 kk_) ?_
          show own_G p e below s _ _ _ (T.setTop (mkF m 63 #[.val (.ref a), .val (.ref b), .val (.ref b3), .val (.int (Int32.ofNat i)), .val (.int (Int32.ofNat j)), .val (.int (Int32.ofNat ro.length)), .val (.int x), .val (.int y), s8] []))
          refine own_go (fun _ kk_ => XS.iload X.here hx rfl (hb hby d2_63) rfl kk_) ?_
          show own_G p e below s _ _ _ (T.setTop (mkF m 65 #[.val (.ref a), .val (.ref b), .val (.ref b3), .val (.int (Int32.ofNat i)), .val (.int (Int32.ofNat j)), .val (.int (Int32.ofNat ro.length)), .val (.int x), .val (.int y), s8] [(.int x)]))
          refine own_go (fun _ kk_ => XS.iload X.here hx rfl (hb hby d2_65) rfl kk_) ?_
          show own_G p e below s _ _ _ (T.setTop (mkF m 67 #[.val (.ref a), .val (.ref b), .val (.ref b3), .val (.int (Int32.ofNat i)), .val (.int (Int32.ofNat j)), .val (.int (Int32.ofNat ro.length)), .val (.int x), .val (.int y), s8] [(.int y), (.int x)]))
          obtain ⟨_, _, ⟨T35, L35, k35, n35⟩, -, X35, ⟨Lc35, hQ35, l35, y35, z35⟩, st35⟩ := Jvm.LawKit.callS X hx (y := (⟨"java/lang/Math", "min", "(II)I"⟩ : MethodName)) hown (mvT hZ (hw _ (List.mem_of_getElem? (i := 32) rfl))) (mvT hZ (hw _ (List.mem_of_getElem? (i := 33) rfl))) (mvT hZ (hw _ (List.mem_of_getElem? (i := 34) rfl))) (mvT hZ (hw _ (List.mem_of_getElem? (i := 35) rfl))) (by decide) (backOf (W := 0) (rmMin l Z a0 hw [] x y h n0 Zh) hZ (hw _ (List.mem_of_getElem? (i := 35) rfl)) (hw _ (List.mem_of_getElem? (i := 34) rfl)) (by decide) (by decide)) (g := (mkF m 67 #[.val (.ref a), .val (.ref b), .val (.ref b3), .val (.int (Int32.ofNat i)), .val (.int (Int32.ofNat j)), .val (.int (Int32.ofNat ro.length)), .val (.int x), .val (.int y), s8] [(.int y), (.int x)])) rfl (by rw [hml]; rfl) (argsL := [(.int x), (.int y)]) (rest := []) (lenOf pd_0 rfl) rfl (by show 2 * 0 + _ ≤ _; exact Nat.le_of_eq rfl) (hb hby d2_67) (fun _ _ => ⟨rfl, e', (by decide : 1 + 0 ≤ _), (by decide : 4 + 0 ≤ _)⟩)
          dsimp only [Pt.U, Pt.locs, Pt.cells, Pt.slots] at X35 l35 y35 z35 st35 hQ35
          subst l35 y35 z35
          obtain ⟨rfl, N35q, e35⟩ := hQ35
          have N35 := Fr.app NF N35q
          refine own_go st35 ?_
          show own_G p e below s _ _ _ (T35.setTop (mkF m 70 #[.val (.ref a), .val (.ref b), .val (.ref b3), .val (.int (Int32.ofNat i)), .val (.int (Int32.ofNat j)), .val (.int (Int32.ofNat ro.length)), .val (.int x), .val (.int y), s8] [(.int (own_min x y))]))
          rcases own_tri x y with hq | hq | hq
          · rw [own_min_l hq]
            show own_G p e below s _ _ _ (T35.setTop (mkF m 70 #[.val (.ref a), .val (.ref b), .val (.ref b3), .val (.int (Int32.ofNat i)), .val (.int (Int32.ofNat j)), .val (.int (Int32.ofNat ro.length)), .val (.int x), .val (.int y), s8] [(.int x)]))
            refine own_go (fun _ kk_ => XS.istoreS X35.here hx rfl (hb hby d2_70) rfl rfl hs8 kk_) ?_
            show own_G p e below s _ _ _ (T35.setTop (mkF m 72 #[.val (.ref a), .val (.ref b), .val (.ref b3), .val (.int (Int32.ofNat i)), .val (.int (Int32.ofNat j)), .val (.int (Int32.ofNat ro.length)), .val (.int x), .val (.int y), .val (.int x)] []))
            refine own_go (fun _ kk_ => XS.aloadN X35.here hx rfl (hb hby d2_72) rfl rfl kk_) ?_
            show own_G p e below s _ _ _ (T35.setTop (mkF m 73 #[.val (.ref a), .val (.ref b), .val (.ref b3), .val (.int (Int32.ofNat i)), .val (.int (Int32.ofNat j)), .val (.int (Int32.ofNat ro.length)), .val (.int x), .val (.int y), .val (.int x)] [(.ref b3)]))
            refine own_go (fun _ kk_ => XS.iload X35.here hx rfl (hb hby d2_73) rfl kk_) ?_
            show own_G p e below s _ _ _ (T35.setTop (mkF m 75 #[.val (.ref a), .val (.ref b), .val (.ref b3), .val (.int (Int32.ofNat i)), .val (.int (Int32.ofNat j)), .val (.int (Int32.ofNat ro.length)), .val (.int x), .val (.int y), .val (.int x)] [(.int (Int32.ofNat ro.length)), (.ref b3)]))
            refine own_go (fun _ kk_ => XS.iinc X35.here hx rfl (hb hby d2_75) rfl (l' := #[.val (.ref a), .val (.ref b), .val (.ref b3), .val (.int (Int32.ofNat i)), .val (.int (Int32.ofNat j)), .val (.int ((Int32.ofNat ro.length) + (1 : Int32))), .val (.int x), .val (.int y), .val (.int x)]) rfl kk_) ?_
            show own_G p e below s _ _ _ (T35.setTop (mkF m 78 #[.val (.ref a), .val (.ref b), .val (.ref b3), .val (.int (Int32.ofNat i)), .val (.int (Int32.ofNat j)), .val (.int ((Int32.ofNat ro.length) + (1 : Int32))), .val (.int x), .val (.int y), .val (.int x)] [(.int (Int32.ofNat ro.length)), (.ref b3)]))
            refine own_go (fun _ kk_ => XS.iload X35.here hx rfl (hb hby d2_78) rfl kk_) ?_
            show own_G p e below s _ _ _ (T35.setTop (mkF m 80 #[.val (.ref a), .val (.ref b), .val (.ref b3), .val (.int (Int32.ofNat i)), .val (.int (Int32.ofNat j)), .val (.int ((Int32.ofNat ro.length) + (1 : Int32))), .val (.int x), .val (.int y), .val (.int x)] [(.int x), (.int (Int32.ofNat ro.length)), (.ref b3)]))
            have Vp36 := Vo.pad (pad_rep (ro.map Value.int) (.int (0 : Int32)) 1)
            have Vc37 := Vp36
            obtain ⟨cl37, Ar37, q37, S37, M37, H37, G37⟩ := Vc37
            have hin37 := inb_of (j := (Int32.ofNat ro.length)) S37 ⟨own_nn (by omega), ((own_lt (by omega) (by omega)).mpr (by omega))⟩
            obtain ⟨T38, h38, X38, e38, W38, st38⟩ := stI X35 hx hZ e35 Ar37 (j := (Int32.ofNat ro.length)) hin37 (g := (mkF m 80 #[.val (.ref a), .val (.ref b), .val (.ref b3), .val (.int (Int32.ofNat i)), .val (.int (Int32.ofNat j)), .val (.int ((Int32.ofNat ro.length) + (1 : Int32))), .val (.int x), .val (.int y), .val (.int x)] [(.int x), (.int (Int32.ofNat ro.length)), (.ref b3)])) rfl rfl (hb hby d2_80)
            refine own_go st38 ?_
            have K38_ := Kh.wr W38 (Or.inr ko_b3)
            have V38_a := Va.other W38 ne_a_b3
            have V38_b := Vb.other W38 ne_b_b3
            have V38_b3 : Arv Z h38 b3 k3 .int (Int32.ofNat (la.length + lb.length)) ((ro.map Value.int ++ List.replicate 1 (Value.int (0 : Int32))).set ro.length (Value.int x)) (.int (0 : Int32)) := Arv.set Ar37 q37 S37 M37 H37 G37 rfl W38 ro.length (own_nat (by omega)) (by simp)
            have E38_b3 := Eo.wr W38
            have Z38 : n0 ≤ h38.size := by rw [W38.size]; exact Zh
            have N38 := Fr.snoc X38 N35 g_b3
            rw [own_snoc] at V38_b3
            show own_G p e below s _ _ _ (T38.setTop (mkF m 81 #[.val (.ref a), .val (.ref b), .val (.ref b3), .val (.int (Int32.ofNat i)), .val (.int (Int32.ofNat j)), .val (.int ((Int32.ofNat ro.length) + (1 : Int32))), .val (.int x), .val (.int y), .val (.int x)] []))
            refine own_go (fun _ kk_ => XS.iloadN X38.here hx rfl (hb hby d2_81) rfl kk_) ?_
            show own_G p e below s _ _ _ (T38.setTop (mkF m 82 #[.val (.ref a), .val (.ref b), .val (.ref b3), .val (.int (Int32.ofNat i)), .val (.int (Int32.ofNat j)), .val (.int ((Int32.ofNat ro.length) + (1 : Int32))), .val (.int x), .val (.int y), .val (.int x)] [(.int (Int32.ofNat i))]))
            refine own_go (fun _ kk_ => XS.iload X38.here hx rfl (hb hby d2_82) rfl kk_) ?_
            show own_G p e below s _ _ _ (T38.setTop (mkF m 84 #[.val (.ref a), .val (.ref b), .val (.ref b3), .val (.int (Int32.ofNat i)), .val (.int (Int32.ofNat j)), .val (.int ((Int32.ofNat ro.length) + (1 : Int32))), .val (.int x), .val (.int y), .val (.int x)] [(.int x), (.int (Int32.ofNat i))]))
            refine own_go (fun _ kk_ => XS.iload X38.here hx rfl (hb hby d2_84) rfl kk_) ?_
            show own_G p e below s _ _ _ (T38.setTop (mkF m 86 #[.val (.ref a), .val (.ref b), .val (.ref b3), .val (.int (Int32.ofNat i)), .val (.int (Int32.ofNat j)), .val (.int ((Int32.ofNat ro.length) + (1 : Int32))), .val (.int x), .val (.int y), .val (.int x)] [(.int x), (.int x), (.int (Int32.ofNat i))]))
            refine own_ic_neN X38 hx (pc := 86) (hb hby d2_86) rfl ?_
            show own_G p e below s _ _ _ (T38.setTop (mkF m 89 #[.val (.ref a), .val (.ref b), .val (.ref b3), .val (.int (Int32.ofNat i)), .val (.int (Int32.ofNat j)), .val (.int ((Int32.ofNat ro.length) + (1 : Int32))), .val (.int x), .val (.int y), .val (.int x)] [(.int (Int32.ofNat i))]))
            refine own_go (fun _ kk_ => XS.iconst X38.here hx rfl (hb hby d2_89) kk_) ?_
            show own_G p e below s _ _ _ (T38.setTop (mkF m 90 #[.val (.ref a), .val (.ref b), .val (.ref b3), .val (.int (Int32.ofNat i)), .val (.int (Int32.ofNat j)), .val (.int ((Int32.ofNat ro.length) + (1 : Int32))), .val (.int x), .val (.int y), .val (.int x)] [(.int (1 : Int32)), (.int (Int32.ofNat i))]))
            refine own_go (fun _ kk_ => XS.goto X38.here hx rfl (pc0 := 90) (pc' := 94) rfl (hb hby d2_90) (by decide) (by decide) kk_) ?_
            show own_G p e below s _ _ _ (T38.setTop (mkF m 94 #[.val (.ref a), .val (.ref b), .val (.ref b3), .val (.int (Int32.ofNat i)), .val (.int (Int32.ofNat j)), .val (.int ((Int32.ofNat ro.length) + (1 : Int32))), .val (.int x), .val (.int y), .val (.int x)] [(.int (1 : Int32)), (.int (Int32.ofNat i))]))
            refine own_go (fun _ kk_ => XS.iadd X38.here hx rfl (hb hby d2_94) rfl kk_) ?_
            show own_G p e below s _ _ _ (T38.setTop (mkF m 95 #[.val (.ref a), .val (.ref b), .val (.ref b3), .val (.int (Int32.ofNat i)), .val (.int (Int32.ofNat j)), .val (.int ((Int32.ofNat ro.length) + (1 : Int32))), .val (.int x), .val (.int y), .val (.int x)] [(.int ((Int32.ofNat i) + (1 : Int32)))]))
            refine own_go (fun _ kk_ => XS.istoreN X38.here hx rfl (hb hby d2_95) rfl (l' := #[.val (.ref a), .val (.ref b), .val (.ref b3), .val (.int ((Int32.ofNat i) + (1 : Int32))), .val (.int (Int32.ofNat j)), .val (.int ((Int32.ofNat ro.length) + (1 : Int32))), .val (.int x), .val (.int y), .val (.int x)]) rfl kk_) ?_
            show own_G p e below s _ _ _ (T38.setTop (mkF m 96 #[.val (.ref a), .val (.ref b), .val (.ref b3), .val (.int ((Int32.ofNat i) + (1 : Int32))), .val (.int (Int32.ofNat j)), .val (.int ((Int32.ofNat ro.length) + (1 : Int32))), .val (.int x), .val (.int y), .val (.int x)] []))
            refine own_go (fun _ kk_ => XS.iload X38.here hx rfl (hb hby d2_96) rfl kk_) ?_
            show own_G p e below s _ _ _ (T38.setTop (mkF m 98 #[.val (.ref a), .val (.ref b), .val (.ref b3), .val (.int ((Int32.ofNat i) + (1 : Int32))), .val (.int (Int32.ofNat j)), .val (.int ((Int32.ofNat ro.length) + (1 : Int32))), .val (.int x), .val (.int y), .val (.int x)] [(.int (Int32.ofNat j))]))
            refine own_go (fun _ kk_ => XS.iload X38.here hx rfl (hb hby d2_98) rfl kk_) ?_
            show own_G p e below s _ _ _ (T38.setTop (mkF m 100 #[.val (.ref a), .val (.ref b), .val (.ref b3), .val (.int ((Int32.ofNat i) + (1 : Int32))), .val (.int (Int32.ofNat j)), .val (.int ((Int32.ofNat ro.length) + (1 : Int32))), .val (.int x), .val (.int y), .val (.int x)] [(.int y), (.int (Int32.ofNat j))]))
            refine own_go (fun _ kk_ => XS.iload X38.here hx rfl (hb hby d2_100) rfl kk_) ?_
            show own_G p e below s _ _ _ (T38.setTop (mkF m 102 #[.val (.ref a), .val (.ref b), .val (.ref b3), .val (.int ((Int32.ofNat i) + (1 : Int32))), .val (.int (Int32.ofNat j)), .val (.int ((Int32.ofNat ro.length) + (1 : Int32))), .val (.int x), .val (.int y), .val (.int x)] [(.int x), (.int y), (.int (Int32.ofNat j))]))
            refine own_ic_neY X38 hx (pc := 102) (pc' := 109) (hb hby d2_102) (by decide) (by decide) (own_ne' hq) ?_
            show own_G p e below s _ _ _ (T38.setTop (mkF m 109 #[.val (.ref a), .val (.ref b), .val (.ref b3), .val (.int ((Int32.ofNat i) + (1 : Int32))), .val (.int (Int32.ofNat j)), .val (.int ((Int32.ofNat ro.length) + (1 : Int32))), .val (.int x), .val (.int y), .val (.int x)] [(.int (Int32.ofNat j))]))
            refine own_go (fun _ kk_ => XS.iconst X38.here hx rfl (hb hby d2_109) kk_) ?_
            show own_G p e below s _ _ _ (T38.setTop (mkF m 110 #[.val (.ref a), .val (.ref b), .val (.ref b3), .val (.int ((Int32.ofNat i) + (1 : Int32))), .val (.int (Int32.ofNat j)), .val (.int ((Int32.ofNat ro.length) + (1 : Int32))), .val (.int x), .val (.int y), .val (.int x)] [(.int (0 : Int32)), (.int (Int32.ofNat j))]))
            refine own_go (fun _ kk_ => XS.iadd X38.here hx rfl (hb hby d2_110) rfl kk_) ?_
            show own_G p e below s _ _ _ (T38.setTop (mkF m 111 #[.val (.ref a), .val (.ref b), .val (.ref b3), .val (.int ((Int32.ofNat i) + (1 : Int32))), .val (.int (Int32.ofNat j)), .val (.int ((Int32.ofNat ro.length) + (1 : Int32))), .val (.int x), .val (.int y), .val (.int x)] [(.int ((Int32.ofNat j) + (0 : Int32)))]))
            refine own_go (fun _ kk_ => XS.istore X38.here hx rfl (hb hby d2_111) rfl (l' := #[.val (.ref a), .val (.ref b), .val (.ref b3), .val (.int ((Int32.ofNat i) + (1 : Int32))), .val (.int ((Int32.ofNat j) + (0 : Int32))), .val (.int ((Int32.ofNat ro.length) + (1 : Int32))), .val (.int x), .val (.int y), .val (.int x)]) rfl kk_) ?_
            show own_G p e below s _ _ _ (T38.setTop (mkF m 113 #[.val (.ref a), .val (.ref b), .val (.ref b3), .val (.int ((Int32.ofNat i) + (1 : Int32))), .val (.int ((Int32.ofNat j) + (0 : Int32))), .val (.int ((Int32.ofNat ro.length) + (1 : Int32))), .val (.int x), .val (.int y), .val (.int x)] []))
            refine own_go (fun _ kk_ => XS.goto X38.here hx rfl (pc0 := 113) (pc' := 16) rfl (hb hby d2_113) (by decide) (by decide) kk_) ?_
            show own_G p e below s _ _ _ (T38.setTop (mkF m 16 #[.val (.ref a), .val (.ref b), .val (.ref b3), .val (.int ((Int32.ofNat i) + (1 : Int32))), .val (.int ((Int32.ofNat j) + (0 : Int32))), .val (.int ((Int32.ofNat ro.length) + (1 : Int32))), .val (.int x), .val (.int y), .val (.int x)] []))
            rw [own_succ i, own_zero (Int32.ofNat j), own_succ ro.length]
            have hlen : (ro ++ [x]).length = ro.length + 1 := by simp
            rw [← hlen]
            have hf2 : ((la.drop (i + 1)).length + (lb.drop j).length) + 1 ≤ fuel := by
              rw [da2, hB]
              try simp only [List.length_cons, List.length_nil]
              omega
            refine ih ((la.drop (i + 1)).length + (lb.drop j).length) (by omega) (ro ++ [x]) (i + 1) j _ _ _ _ _ _ (One.val rfl) (One.val rfl) (One.val rfl) rfl (by rw [hlen]; omega) (by rw [hlen]; omega) (by rw [hlen]; omega) ?_ X38 N38 e38 Z38 K38_ V38_a V38_b V38_b3 E38_b3
            rw [da2, hB]
            exact (own_inv_l inv hq (Or.inr ⟨_, rfl⟩))
          · rw [own_min_e hq]
            show own_G p e below s _ _ _ (T35.setTop (mkF m 70 #[.val (.ref a), .val (.ref b), .val (.ref b3), .val (.int (Int32.ofNat i)), .val (.int (Int32.ofNat j)), .val (.int (Int32.ofNat ro.length)), .val (.int x), .val (.int y), s8] [(.int x)]))
            refine own_go (fun _ kk_ => XS.istoreS X35.here hx rfl (hb hby d2_70) rfl rfl hs8 kk_) ?_
            show own_G p e below s _ _ _ (T35.setTop (mkF m 72 #[.val (.ref a), .val (.ref b), .val (.ref b3), .val (.int (Int32.ofNat i)), .val (.int (Int32.ofNat j)), .val (.int (Int32.ofNat ro.length)), .val (.int x), .val (.int y), .val (.int x)] []))
            refine own_go (fun _ kk_ => XS.aloadN X35.here hx rfl (hb hby d2_72) rfl rfl kk_) ?_
            show own_G p e below s _ _ _ (T35.setTop (mkF m 73 #[.val (.ref a), .val (.ref b), .val (.ref b3), .val (.int (Int32.ofNat i)), .val (.int (Int32.ofNat j)), .val (.int (Int32.ofNat ro.length)), .val (.int x), .val (.int y), .val (.int x)] [(.ref b3)]))
            refine own_go (fun _ kk_ => XS.iload X35.here hx rfl (hb hby d2_73) rfl kk_) ?_
            show own_G p e below s _ _ _ (T35.setTop (mkF m 75 #[.val (.ref a), .val (.ref b), .val (.ref b3), .val (.int (Int32.ofNat i)), .val (.int (Int32.ofNat j)), .val (.int (Int32.ofNat ro.length)), .val (.int x), .val (.int y), .val (.int x)] [(.int (Int32.ofNat ro.length)), (.ref b3)]))
            refine own_go (fun _ kk_ => XS.iinc X35.here hx rfl (hb hby d2_75) rfl (l' := #[.val (.ref a), .val (.ref b), .val (.ref b3), .val (.int (Int32.ofNat i)), .val (.int (Int32.ofNat j)), .val (.int ((Int32.ofNat ro.length) + (1 : Int32))), .val (.int x), .val (.int y), .val (.int x)]) rfl kk_) ?_
            show own_G p e below s _ _ _ (T35.setTop (mkF m 78 #[.val (.ref a), .val (.ref b), .val (.ref b3), .val (.int (Int32.ofNat i)), .val (.int (Int32.ofNat j)), .val (.int ((Int32.ofNat ro.length) + (1 : Int32))), .val (.int x), .val (.int y), .val (.int x)] [(.int (Int32.ofNat ro.length)), (.ref b3)]))
            refine own_go (fun _ kk_ => XS.iload X35.here hx rfl (hb hby d2_78) rfl kk_) ?_
            show own_G p e below s _ _ _ (T35.setTop (mkF m 80 #[.val (.ref a), .val (.ref b), .val (.ref b3), .val (.int (Int32.ofNat i)), .val (.int (Int32.ofNat j)), .val (.int ((Int32.ofNat ro.length) + (1 : Int32))), .val (.int x), .val (.int y), .val (.int x)] [(.int x), (.int (Int32.ofNat ro.length)), (.ref b3)]))
            have Vp39 := Vo.pad (pad_rep (ro.map Value.int) (.int (0 : Int32)) 1)
            have Vc40 := Vp39
            obtain ⟨cl40, Ar40, q40, S40, M40, H40, G40⟩ := Vc40
            have hin40 := inb_of (j := (Int32.ofNat ro.length)) S40 ⟨own_nn (by omega), ((own_lt (by omega) (by omega)).mpr (by omega))⟩
            obtain ⟨T41, h41, X41, e41, W41, st41⟩ := stI X35 hx hZ e35 Ar40 (j := (Int32.ofNat ro.length)) hin40 (g := (mkF m 80 #[.val (.ref a), .val (.ref b), .val (.ref b3), .val (.int (Int32.ofNat i)), .val (.int (Int32.ofNat j)), .val (.int ((Int32.ofNat ro.length) + (1 : Int32))), .val (.int x), .val (.int y), .val (.int x)] [(.int x), (.int (Int32.ofNat ro.length)), (.ref b3)])) rfl rfl (hb hby d2_80)
            refine own_go st41 ?_
            have K41_ := Kh.wr W41 (Or.inr ko_b3)
            have V41_a := Va.other W41 ne_a_b3
            have V41_b := Vb.other W41 ne_b_b3
            have V41_b3 : Arv Z h41 b3 k3 .int (Int32.ofNat (la.length + lb.length)) ((ro.map Value.int ++ List.replicate 1 (Value.int (0 : Int32))).set ro.length (Value.int x)) (.int (0 : Int32)) := Arv.set Ar40 q40 S40 M40 H40 G40 rfl W41 ro.length (own_nat (by omega)) (by simp)
            have E41_b3 := Eo.wr W41
            have Z41 : n0 ≤ h41.size := by rw [W41.size]; exact Zh
            have N41 := Fr.snoc X41 N35 g_b3
            rw [own_snoc] at V41_b3
            show own_G p e below s _ _ _ (T41.setTop (mkF m 81 #[.val (.ref a), .val (.ref b), .val (.ref b3), .val (.int (Int32.ofNat i)), .val (.int (Int32.ofNat j)), .val (.int ((Int32.ofNat ro.length) + (1 : Int32))), .val (.int x), .val (.int y), .val (.int x)] []))
            refine own_go (fun _ kk_ => XS.iloadN X41.here hx rfl (hb hby d2_81) rfl kk_) ?_
            show own_G p e below s _ _ _ (T41.setTop (mkF m 82 #[.val (.ref a), .val (.ref b), .val (.ref b3), .val (.int (Int32.ofNat i)), .val (.int (Int32.ofNat j)), .val (.int ((Int32.ofNat ro.length) + (1 : Int32))), .val (.int x), .val (.int y), .val (.int x)] [(.int (Int32.ofNat i))]))
            refine own_go (fun _ kk_ => XS.iload X41.here hx rfl (hb hby d2_82) rfl kk_) ?_
            show own_G p e below s _ _ _ (T41.setTop (mkF m 84 #[.val (.ref a), .val (.ref b), .val (.ref b3), .val (.int (Int32.ofNat i)), .val (.int (Int32.ofNat j)), .val (.int ((Int32.ofNat ro.length) + (1 : Int32))), .val (.int x), .val (.int y), .val (.int x)] [(.int x), (.int (Int32.ofNat i))]))
            refine own_go (fun _ kk_ => XS.iload X41.here hx rfl (hb hby d2_84) rfl kk_) ?_
            show own_G p e below s _ _ _ (T41.setTop (mkF m 86 #[.val (.ref a), .val (.ref b), .val (.ref b3), .val (.int (Int32.ofNat i)), .val (.int (Int32.ofNat j)), .val (.int ((Int32.ofNat ro.length) + (1 : Int32))), .val (.int x), .val (.int y), .val (.int x)] [(.int x), (.int x), (.int (Int32.ofNat i))]))
            refine own_ic_neN X41 hx (pc := 86) (hb hby d2_86) rfl ?_
            show own_G p e below s _ _ _ (T41.setTop (mkF m 89 #[.val (.ref a), .val (.ref b), .val (.ref b3), .val (.int (Int32.ofNat i)), .val (.int (Int32.ofNat j)), .val (.int ((Int32.ofNat ro.length) + (1 : Int32))), .val (.int x), .val (.int y), .val (.int x)] [(.int (Int32.ofNat i))]))
            refine own_go (fun _ kk_ => XS.iconst X41.here hx rfl (hb hby d2_89) kk_) ?_
            show own_G p e below s _ _ _ (T41.setTop (mkF m 90 #[.val (.ref a), .val (.ref b), .val (.ref b3), .val (.int (Int32.ofNat i)), .val (.int (Int32.ofNat j)), .val (.int ((Int32.ofNat ro.length) + (1 : Int32))), .val (.int x), .val (.int y), .val (.int x)] [(.int (1 : Int32)), (.int (Int32.ofNat i))]))
            refine own_go (fun _ kk_ => XS.goto X41.here hx rfl (pc0 := 90) (pc' := 94) rfl (hb hby d2_90) (by decide) (by decide) kk_) ?_
            show own_G p e below s _ _ _ (T41.setTop (mkF m 94 #[.val (.ref a), .val (.ref b), .val (.ref b3), .val (.int (Int32.ofNat i)), .val (.int (Int32.ofNat j)), .val (.int ((Int32.ofNat ro.length) + (1 : Int32))), .val (.int x), .val (.int y), .val (.int x)] [(.int (1 : Int32)), (.int (Int32.ofNat i))]))
            refine own_go (fun _ kk_ => XS.iadd X41.here hx rfl (hb hby d2_94) rfl kk_) ?_
            show own_G p e below s _ _ _ (T41.setTop (mkF m 95 #[.val (.ref a), .val (.ref b), .val (.ref b3), .val (.int (Int32.ofNat i)), .val (.int (Int32.ofNat j)), .val (.int ((Int32.ofNat ro.length) + (1 : Int32))), .val (.int x), .val (.int y), .val (.int x)] [(.int ((Int32.ofNat i) + (1 : Int32)))]))
            refine own_go (fun _ kk_ => XS.istoreN X41.here hx rfl (hb hby d2_95) rfl (l' := #[.val (.ref a), .val (.ref b), .val (.ref b3), .val (.int ((Int32.ofNat i) + (1 : Int32))), .val (.int (Int32.ofNat j)), .val (.int ((Int32.ofNat ro.length) + (1 : Int32))), .val (.int x), .val (.int y), .val (.int x)]) rfl kk_) ?_
            show own_G p e below s _ _ _ (T41.setTop (mkF m 96 #[.val (.ref a), .val (.ref b), .val (.ref b3), .val (.int ((Int32.ofNat i) + (1 : Int32))), .val (.int (Int32.ofNat j)), .val (.int ((Int32.ofNat ro.length) + (1 : Int32))), .val (.int x), .val (.int y), .val (.int x)] []))
            refine own_go (fun _ kk_ => XS.iload X41.here hx rfl (hb hby d2_96) rfl kk_) ?_
            show own_G p e below s _ _ _ (T41.setTop (mkF m 98 #[.val (.ref a), .val (.ref b), .val (.ref b3), .val (.int ((Int32.ofNat i) + (1 : Int32))), .val (.int (Int32.ofNat j)), .val (.int ((Int32.ofNat ro.length) + (1 : Int32))), .val (.int x), .val (.int y), .val (.int x)] [(.int (Int32.ofNat j))]))
            refine own_go (fun _ kk_ => XS.iload X41.here hx rfl (hb hby d2_98) rfl kk_) ?_
            show own_G p e below s _ _ _ (T41.setTop (mkF m 100 #[.val (.ref a), .val (.ref b), .val (.ref b3), .val (.int ((Int32.ofNat i) + (1 : Int32))), .val (.int (Int32.ofNat j)), .val (.int ((Int32.ofNat ro.length) + (1 : Int32))), .val (.int x), .val (.int y), .val (.int x)] [(.int y), (.int (Int32.ofNat j))]))
            refine own_go (fun _ kk_ => XS.iload X41.here hx rfl (hb hby d2_100) rfl kk_) ?_
            show own_G p e below s _ _ _ (T41.setTop (mkF m 102 #[.val (.ref a), .val (.ref b), .val (.ref b3), .val (.int ((Int32.ofNat i) + (1 : Int32))), .val (.int (Int32.ofNat j)), .val (.int ((Int32.ofNat ro.length) + (1 : Int32))), .val (.int x), .val (.int y), .val (.int x)] [(.int x), (.int y), (.int (Int32.ofNat j))]))
            refine own_ic_neN X41 hx (pc := 102) (hb hby d2_102) hq.symm ?_
            show own_G p e below s _ _ _ (T41.setTop (mkF m 105 #[.val (.ref a), .val (.ref b), .val (.ref b3), .val (.int ((Int32.ofNat i) + (1 : Int32))), .val (.int (Int32.ofNat j)), .val (.int ((Int32.ofNat ro.length) + (1 : Int32))), .val (.int x), .val (.int y), .val (.int x)] [(.int (Int32.ofNat j))]))
            refine own_go (fun _ kk_ => XS.iconst X41.here hx rfl (hb hby d2_105) kk_) ?_
            show own_G p e below s _ _ _ (T41.setTop (mkF m 106 #[.val (.ref a), .val (.ref b), .val (.ref b3), .val (.int ((Int32.ofNat i) + (1 : Int32))), .val (.int (Int32.ofNat j)), .val (.int ((Int32.ofNat ro.length) + (1 : Int32))), .val (.int x), .val (.int y), .val (.int x)] [(.int (1 : Int32)), (.int (Int32.ofNat j))]))
            refine own_go (fun _ kk_ => XS.goto X41.here hx rfl (pc0 := 106) (pc' := 110) rfl (hb hby d2_106) (by decide) (by decide) kk_) ?_
            show own_G p e below s _ _ _ (T41.setTop (mkF m 110 #[.val (.ref a), .val (.ref b), .val (.ref b3), .val (.int ((Int32.ofNat i) + (1 : Int32))), .val (.int (Int32.ofNat j)), .val (.int ((Int32.ofNat ro.length) + (1 : Int32))), .val (.int x), .val (.int y), .val (.int x)] [(.int (1 : Int32)), (.int (Int32.ofNat j))]))
            refine own_go (fun _ kk_ => XS.iadd X41.here hx rfl (hb hby d2_110) rfl kk_) ?_
            show own_G p e below s _ _ _ (T41.setTop (mkF m 111 #[.val (.ref a), .val (.ref b), .val (.ref b3), .val (.int ((Int32.ofNat i) + (1 : Int32))), .val (.int (Int32.ofNat j)), .val (.int ((Int32.ofNat ro.length) + (1 : Int32))), .val (.int x), .val (.int y), .val (.int x)] [(.int ((Int32.ofNat j) + (1 : Int32)))]))
            refine own_go (fun _ kk_ => XS.istore X41.here hx rfl (hb hby d2_111) rfl (l' := #[.val (.ref a), .val (.ref b), .val (.ref b3), .val (.int ((Int32.ofNat i) + (1 : Int32))), .val (.int ((Int32.ofNat j) + (1 : Int32))), .val (.int ((Int32.ofNat ro.length) + (1 : Int32))), .val (.int x), .val (.int y), .val (.int x)]) rfl kk_) ?_
            show own_G p e below s _ _ _ (T41.setTop (mkF m 113 #[.val (.ref a), .val (.ref b), .val (.ref b3), .val (.int ((Int32.ofNat i) + (1 : Int32))), .val (.int ((Int32.ofNat j) + (1 : Int32))), .val (.int ((Int32.ofNat ro.length) + (1 : Int32))), .val (.int x), .val (.int y), .val (.int x)] []))
            refine own_go (fun _ kk_ => XS.goto X41.here hx rfl (pc0 := 113) (pc' := 16) rfl (hb hby d2_113) (by decide) (by decide) kk_) ?_
            show own_G p e below s _ _ _ (T41.setTop (mkF m 16 #[.val (.ref a), .val (.ref b), .val (.ref b3), .val (.int ((Int32.ofNat i) + (1 : Int32))), .val (.int ((Int32.ofNat j) + (1 : Int32))), .val (.int ((Int32.ofNat ro.length) + (1 : Int32))), .val (.int x), .val (.int y), .val (.int x)] []))
            rw [own_succ i, own_succ j, own_succ ro.length]
            have hlen : (ro ++ [x]).length = ro.length + 1 := by simp
            rw [← hlen]
            have hf2 : ((la.drop (i + 1)).length + (lb.drop (j + 1)).length) + 1 ≤ fuel := by
              rw [da2, db2]
              try simp only [List.length_cons, List.length_nil]
              omega
            refine ih ((la.drop (i + 1)).length + (lb.drop (j + 1)).length) (by omega) (ro ++ [x]) (i + 1) (j + 1) _ _ _ _ _ _ (One.val rfl) (One.val rfl) (One.val rfl) rfl (by rw [hlen]; omega) (by rw [hlen]; omega) (by rw [hlen]; omega) ?_ X41 N41 e41 Z41 K41_ V41_a V41_b V41_b3 E41_b3
            rw [da2, db2]
            exact (by rw [← hq] at inv; exact own_inv_e inv)
          · rw [own_min_r hq]
            show own_G p e below s _ _ _ (T35.setTop (mkF m 70 #[.val (.ref a), .val (.ref b), .val (.ref b3), .val (.int (Int32.ofNat i)), .val (.int (Int32.ofNat j)), .val (.int (Int32.ofNat ro.length)), .val (.int x), .val (.int y), s8] [(.int y)]))
            refine own_go (fun _ kk_ => XS.istoreS X35.here hx rfl (hb hby d2_70) rfl rfl hs8 kk_) ?_
            show own_G p e below s _ _ _ (T35.setTop (mkF m 72 #[.val (.ref a), .val (.ref b), .val (.ref b3), .val (.int (Int32.ofNat i)), .val (.int (Int32.ofNat j)), .val (.int (Int32.ofNat ro.length)), .val (.int x), .val (.int y), .val (.int y)] []))
            refine own_go (fun _ kk_ => XS.aloadN X35.here hx rfl (hb hby d2_72) rfl rfl kk_) ?_
            show own_G p e below s _ _ _ (T35.setTop (mkF m 73 #[.val (.ref a), .val (.ref b), .val (.ref b3), .val (.int (Int32.ofNat i)), .val (.int (Int32.ofNat j)), .val (.int (Int32.ofNat ro.length)), .val (.int x), .val (.int y), .val (.int y)] [(.ref b3)]))
            refine own_go (fun _ kk_ => XS.iload X35.here hx rfl (hb hby d2_73) rfl kk_) ?_
            show own_G p e below s _ _ _ (T35.setTop (mkF m 75 #[.val (.ref a), .val (.ref b), .val (.ref b3), .val (.int (Int32.ofNat i)), .val (.int (Int32.ofNat j)), .val (.int (Int32.ofNat ro.length)), .val (.int x), .val (.int y), .val (.int y)] [(.int (Int32.ofNat ro.length)), (.ref b3)]))
            refine own_go (fun _ kk_ => XS.iinc X35.here hx rfl (hb hby d2_75) rfl (l' := #[.val (.ref a), .val (.ref b), .val (.ref b3), .val (.int (Int32.ofNat i)), .val (.int (Int32.ofNat j)), .val (.int ((Int32.ofNat ro.length) + (1 : Int32))), .val (.int x), .val (.int y), .val (.int y)]) rfl kk_) ?_
            show own_G p e below s _ _ _ (T35.setTop (mkF m 78 #[.val (.ref a), .val (.ref b), .val (.ref b3), .val (.int (Int32.ofNat i)), .val (.int (Int32.ofNat j)), .val (.int ((Int32.ofNat ro.length) + (1 : Int32))), .val (.int x), .val (.int y), .val (.int y)] [(.int (Int32.ofNat ro.length)), (.ref b3)]))
            refine own_go (fun _ kk_ => XS.iload X35.here hx rfl (hb hby d2_78) rfl kk_) ?_
            show own_G p e below s _ _ _ (T35.setTop (mkF m 80 #[.val (.ref a), .val (.ref b), .val (.ref b3), .val (.int (Int32.ofNat i)), .val (.int (Int32.ofNat j)), .val (.int ((Int32.ofNat ro.length) + (1 : Int32))), .val (.int x), .val (.int y), .val (.int y)] [(.int y), (.int (Int32.ofNat ro.length)), (.ref b3)]))
            have Vp42 := Vo.pad (pad_rep (ro.map Value.int) (.int (0 : Int32)) 1)
            have Vc43 := Vp42
            obtain ⟨cl43, Ar43, q43, S43, M43, H43, G43⟩ := Vc43
            have hin43 := inb_of (j := (Int32.ofNat ro.length)) S43 ⟨own_nn (by omega), ((own_lt (by omega) (by omega)).mpr (by omega))⟩
            obtain ⟨T44, h44, X44, e44, W44, st44⟩ := stI X35 hx hZ e35 Ar43 (j := (Int32.ofNat ro.length)) hin43 (g := (mkF m 80 #[.val (.ref a), .val (.ref b), .val (.ref b3), .val (.int (Int32.ofNat i)), .val (.int (Int32.ofNat j)), .val (.int ((Int32.ofNat ro.length) + (1 : Int32))), .val (.int x), .val (.int y), .val (.int y)] [(.int y), (.int (Int32.ofNat ro.length)), (.ref b3)])) rfl rfl (hb hby d2_80)
            refine own_go st44 ?_
            have K44_ := Kh.wr W44 (Or.inr ko_b3)
            have V44_a := Va.other W44 ne_a_b3
            have V44_b := Vb.other W44 ne_b_b3
            have V44_b3 : Arv Z h44 b3 k3 .int (Int32.ofNat (la.length + lb.length)) ((ro.map Value.int ++ List.replicate 1 (Value.int (0 : Int32))).set ro.length (Value.int y)) (.int (0 : Int32)) := Arv.set Ar43 q43 S43 M43 H43 G43 rfl W44 ro.length (own_nat (by omega)) (by simp)
            have E44_b3 := Eo.wr W44
            have Z44 : n0 ≤ h44.size := by rw [W44.size]; exact Zh
            have N44 := Fr.snoc X44 N35 g_b3
            rw [own_snoc] at V44_b3
            show own_G p e below s _ _ _ (T44.setTop (mkF m 81 #[.val (.ref a), .val (.ref b), .val (.ref b3), .val (.int (Int32.ofNat i)), .val (.int (Int32.ofNat j)), .val (.int ((Int32.ofNat ro.length) + (1 : Int32))), .val (.int x), .val (.int y), .val (.int y)] []))
            refine own_go (fun _ kk_ => XS.iloadN X44.here hx rfl (hb hby d2_81) rfl kk_) ?_
            show own_G p e below s _ _ _ (T44.setTop (mkF m 82 #[.val (.ref a), .val (.ref b), .val (.ref b3), .val (.int (Int32.ofNat i)), .val (.int (Int32.ofNat j)), .val (.int ((Int32.ofNat ro.length) + (1 : Int32))), .val (.int x), .val (.int y), .val (.int y)] [(.int (Int32.ofNat i))]))
            refine own_go (fun _ kk_ => XS.iload X44.here hx rfl (hb hby d2_82) rfl kk_) ?_
            show own_G p e below s _ _ _ (T44.setTop (mkF m 84 #[.val (.ref a), .val (.ref b), .val (.ref b3), .val (.int (Int32.ofNat i)), .val (.int (Int32.ofNat j)), .val (.int ((Int32.ofNat ro.length) + (1 : Int32))), .val (.int x), .val (.int y), .val (.int y)] [(.int x), (.int (Int32.ofNat i))]))
            refine own_go (fun _ kk_ => XS.iload X44.here hx rfl (hb hby d2_84) rfl kk_) ?_
            show own_G p e below s _ _ _ (T44.setTop (mkF m 86 #[.val (.ref a), .val (.ref b), .val (.ref b3), .val (.int (Int32.ofNat i)), .val (.int (Int32.ofNat j)), .val (.int ((Int32.ofNat ro.length) + (1 : Int32))), .val (.int x), .val (.int y), .val (.int y)] [(.int y), (.int x), (.int (Int32.ofNat i))]))
            refine own_ic_neY X44 hx (pc := 86) (pc' := 93) (hb hby d2_86) (by decide) (by decide) (own_ne' hq) ?_
            show own_G p e below s _ _ _ (T44.setTop (mkF m 93 #[.val (.ref a), .val (.ref b), .val (.ref b3), .val (.int (Int32.ofNat i)), .val (.int (Int32.ofNat j)), .val (.int ((Int32.ofNat ro.length) + (1 : Int32))), .val (.int x), .val (.int y), .val (.int y)] [(.int (Int32.ofNat i))]))
            refine own_go (fun _ kk_ => XS.iconst X44.here hx rfl (hb hby d2_93) kk_) ?_
            show own_G p e below s _ _ _ (T44.setTop (mkF m 94 #[.val (.ref a), .val (.ref b), .val (.ref b3), .val (.int (Int32.ofNat i)), .val (.int (Int32.ofNat j)), .val (.int ((Int32.ofNat ro.length) + (1 : Int32))), .val (.int x), .val (.int y), .val (.int y)] [(.int (0 : Int32)), (.int (Int32.ofNat i))]))
            refine own_go (fun _ kk_ => XS.iadd X44.here hx rfl (hb hby d2_94) rfl kk_) ?_
            show own_G p e below s _ _ _ (T44.setTop (mkF m 95 #[.val (.ref a), .val (.ref b), .val (.ref b3), .val (.int (Int32.ofNat i)), .val (.int (Int32.ofNat j)), .val (.int ((Int32.ofNat ro.length) + (1 : Int32))), .val (.int x), .val (.int y), .val (.int y)] [(.int ((Int32.ofNat i) + (0 : Int32)))]))
            refine own_go (fun _ kk_ => XS.istoreN X44.here hx rfl (hb hby d2_95) rfl (l' := #[.val (.ref a), .val (.ref b), .val (.ref b3), .val (.int ((Int32.ofNat i) + (0 : Int32))), .val (.int (Int32.ofNat j)), .val (.int ((Int32.ofNat ro.length) + (1 : Int32))), .val (.int x), .val (.int y), .val (.int y)]) rfl kk_) ?_
            show own_G p e below s _ _ _ (T44.setTop (mkF m 96 #[.val (.ref a), .val (.ref b), .val (.ref b3), .val (.int ((Int32.ofNat i) + (0 : Int32))), .val (.int (Int32.ofNat j)), .val (.int ((Int32.ofNat ro.length) + (1 : Int32))), .val (.int x), .val (.int y), .val (.int y)] []))
            refine own_go (fun _ kk_ => XS.iload X44.here hx rfl (hb hby d2_96) rfl kk_) ?_
            show own_G p e below s _ _ _ (T44.setTop (mkF m 98 #[.val (.ref a), .val (.ref b), .val (.ref b3), .val (.int ((Int32.ofNat i) + (0 : Int32))), .val (.int (Int32.ofNat j)), .val (.int ((Int32.ofNat ro.length) + (1 : Int32))), .val (.int x), .val (.int y), .val (.int y)] [(.int (Int32.ofNat j))]))
            refine own_go (fun _ kk_ => XS.iload X44.here hx rfl (hb hby d2_98) rfl kk_) ?_
            show own_G p e below s _ _ _ (T44.setTop (mkF m 100 #[.val (.ref a), .val (.ref b), .val (.ref b3), .val (.int ((Int32.ofNat i) + (0 : Int32))), .val (.int (Int32.ofNat j)), .val (.int ((Int32.ofNat ro.length) + (1 : Int32))), .val (.int x), .val (.int y), .val (.int y)] [(.int y), (.int (Int32.ofNat j))]))
            refine own_go (fun _ kk_ => XS.iload X44.here hx rfl (hb hby d2_100) rfl kk_) ?_
            show own_G p e below s _ _ _ (T44.setTop (mkF m 102 #[.val (.ref a), .val (.ref b), .val (.ref b3), .val (.int ((Int32.ofNat i) + (0 : Int32))), .val (.int (Int32.ofNat j)), .val (.int ((Int32.ofNat ro.length) + (1 : Int32))), .val (.int x), .val (.int y), .val (.int y)] [(.int y), (.int y), (.int (Int32.ofNat j))]))
            refine own_ic_neN X44 hx (pc := 102) (hb hby d2_102) rfl ?_
            show own_G p e below s _ _ _ (T44.setTop (mkF m 105 #[.val (.ref a), .val (.ref b), .val (.ref b3), .val (.int ((Int32.ofNat i) + (0 : Int32))), .val (.int (Int32.ofNat j)), .val (.int ((Int32.ofNat ro.length) + (1 : Int32))), .val (.int x), .val (.int y), .val (.int y)] [(.int (Int32.ofNat j))]))
            refine own_go (fun _ kk_ => XS.iconst X44.here hx rfl (hb hby d2_105) kk_) ?_
            show own_G p e below s _ _ _ (T44.setTop (mkF m 106 #[.val (.ref a), .val (.ref b), .val (.ref b3), .val (.int ((Int32.ofNat i) + (0 : Int32))), .val (.int (Int32.ofNat j)), .val (.int ((Int32.ofNat ro.length) + (1 : Int32))), .val (.int x), .val (.int y), .val (.int y)] [(.int (1 : Int32)), (.int (Int32.ofNat j))]))
            refine own_go (fun _ kk_ => XS.goto X44.here hx rfl (pc0 := 106) (pc' := 110) rfl (hb hby d2_106) (by decide) (by decide) kk_) ?_
            show own_G p e below s _ _ _ (T44.setTop (mkF m 110 #[.val (.ref a), .val (.ref b), .val (.ref b3), .val (.int ((Int32.ofNat i) + (0 : Int32))), .val (.int (Int32.ofNat j)), .val (.int ((Int32.ofNat ro.length) + (1 : Int32))), .val (.int x), .val (.int y), .val (.int y)] [(.int (1 : Int32)), (.int (Int32.ofNat j))]))
            refine own_go (fun _ kk_ => XS.iadd X44.here hx rfl (hb hby d2_110) rfl kk_) ?_
            show own_G p e below s _ _ _ (T44.setTop (mkF m 111 #[.val (.ref a), .val (.ref b), .val (.ref b3), .val (.int ((Int32.ofNat i) + (0 : Int32))), .val (.int (Int32.ofNat j)), .val (.int ((Int32.ofNat ro.length) + (1 : Int32))), .val (.int x), .val (.int y), .val (.int y)] [(.int ((Int32.ofNat j) + (1 : Int32)))]))
            refine own_go (fun _ kk_ => XS.istore X44.here hx rfl (hb hby d2_111) rfl (l' := #[.val (.ref a), .val (.ref b), .val (.ref b3), .val (.int ((Int32.ofNat i) + (0 : Int32))), .val (.int ((Int32.ofNat j) + (1 : Int32))), .val (.int ((Int32.ofNat ro.length) + (1 : Int32))), .val (.int x), .val (.int y), .val (.int y)]) rfl kk_) ?_
            show own_G p e below s _ _ _ (T44.setTop (mkF m 113 #[.val (.ref a), .val (.ref b), .val (.ref b3), .val (.int ((Int32.ofNat i) + (0 : Int32))), .val (.int ((Int32.ofNat j) + (1 : Int32))), .val (.int ((Int32.ofNat ro.length) + (1 : Int32))), .val (.int x), .val (.int y), .val (.int y)] []))
            refine own_go (fun _ kk_ => XS.goto X44.here hx rfl (pc0 := 113) (pc' := 16) rfl (hb hby d2_113) (by decide) (by decide) kk_) ?_
            show own_G p e below s _ _ _ (T44.setTop (mkF m 16 #[.val (.ref a), .val (.ref b), .val (.ref b3), .val (.int ((Int32.ofNat i) + (0 : Int32))), .val (.int ((Int32.ofNat j) + (1 : Int32))), .val (.int ((Int32.ofNat ro.length) + (1 : Int32))), .val (.int x), .val (.int y), .val (.int y)] []))
            rw [own_zero (Int32.ofNat i), own_succ j, own_succ ro.length]
            have hlen : (ro ++ [y]).length = ro.length + 1 := by simp
            rw [← hlen]
            have hf2 : ((la.drop i).length + (lb.drop (j + 1)).length) + 1 ≤ fuel := by
              rw [hA, db2]
              try simp only [List.length_cons, List.length_nil]
              omega
            refine ih ((la.drop i).length + (lb.drop (j + 1)).length) (by omega) (ro ++ [y]) i (j + 1) _ _ _ _ _ _ (One.val rfl) (One.val rfl) (One.val rfl) rfl (by rw [hlen]; omega) (by rw [hlen]; omega) (by rw [hlen]; omega) ?_ X44 N44 e44 Z44 K44_ V44_a V44_b V44_b3 E44_b3
            rw [hA, db2]
            exact (own_inv_r inv hq (Or.inr ⟨_, rfl⟩))
  show own_G p e below s _ _ _ (T3.setTop (mkF m 16 #[.val (.ref a), .val (.ref b), .val (.ref b3), .val (.int (0 : Int32)), .val (.int (0 : Int32)), .val (.int (0 : Int32)), .unset, .unset, .unset] []))
  exact loop _ [] 0 0 .unset .unset .unset _ _ _ One.u One.u One.u rfl (Nat.le_refl _) (Nat.le_refl _) (by simp) ⟨List.Pairwise.nil, (fun x hx => nomatch hx), (fun x => by simp), sa, sb⟩ X3 N0 e3 Z3 K3_ V3_a V3_b V3_b3 Ex3
def Q_rmH (Z : State) (a : Addr) (ka : ClassId) (lr : List Int32) (x1 : Int32) (h0 : Heap) (n0 : Nat) : Option Value → Heap → List Loc → Prop := fun v h L => v = some (.int (own_has lr x1)) ∧ Fr n0 L ∧ h = h0
theorem d8_0 : decode method_4_code 0 = .ok (.aload_n 0, 1) := by decide +kernel
theorem d8_1 : decode method_4_code 1 = .ok (.arraylength, 1) := by decide +kernel
theorem d8_2 : decode method_4_code 2 = .ok (.ifCond .le 10, 3) := by decide +kernel
theorem d8_12 : decode method_4_code 12 = .ok (.aload_n 0, 1) := by decide +kernel
theorem d8_13 : decode method_4_code 13 = .ok (.arraylength, 1) := by decide +kernel
theorem d8_14 : decode method_4_code 14 = .ok (.iconst 1, 1) := by decide +kernel
theorem d8_15 : decode method_4_code 15 = .ok (.if_icmp .le 10, 3) := by decide +kernel
theorem d8_25 : decode method_4_code 25 = .ok (.aload_n 0, 1) := by decide +kernel
theorem d8_26 : decode method_4_code 26 = .ok (.arraylength, 1) := by decide +kernel
theorem d8_27 : decode method_4_code 27 = .ok (.iconst 2, 1) := by decide +kernel
theorem d8_28 : decode method_4_code 28 = .ok (.if_icmp .le 10, 3) := by decide +kernel
theorem d8_38 : decode method_4_code 38 = .ok (.aload_n 0, 1) := by decide +kernel
theorem d8_39 : decode method_4_code 39 = .ok (.arraylength, 1) := by decide +kernel
theorem d8_40 : decode method_4_code 40 = .ok (.iconst 3, 1) := by decide +kernel
theorem d8_41 : decode method_4_code 41 = .ok (.if_icmp .le 14, 3) := by decide +kernel
theorem d8_55 : decode method_4_code 55 = .ok (.iconst 0, 1) := by decide +kernel
theorem d8_56 : decode method_4_code 56 = .ok (.ireturn, 1) := by decide +kernel
theorem ef_rmH0 (m : MethodId) (x0 : Addr) (x1 : Int32) : entryFrame m #[(.ref x0), (.int x1)] 2 = mkF m 0 #[.val (.ref x0), .val (.int x1)] [] := by first | (simp [entryFrame, mkF, argsToLocals, Value.category]; done) | rfl
set_option maxRecDepth 65536 in
set_option maxHeartbeats 40000000 in
theorem rmH0 (l : Launch) (Z : State) (a0 : Array Value) (hw : ∀ d ∈ tables_1, d.before a0 Z = true) (ws : List Jvm.Cond) (a : Addr) (ka : ClassId) (x1 : Int32)  (h0 : Heap) (n0 : Nat) (Z0 : n0 ≤ h0.size) (V_a : Arv Z h0 a ka .int (0 : Int32) [] (.int (0 : Int32))) :
    MetFree l (⟨"com/example/petri_net_analyzer/petrinetanalyzer/SparseVectorUnionPinLaw", "has", "([II)Z"⟩ : MethodName) (head1 (Jvm.Cond.code (⟨"com/example/petri_net_analyzer/petrinetanalyzer/SparseVectorUnionPinLaw", "has", "([II)Z"⟩ : MethodName) method_4_code 2 (some .boolean) :: ws) ({ frames := 0, cells := 0, slots := 0, locals := 0 } : Room)) (fun as_ U => as_ = #[(.ref a), (.int x1)] ∧ Z.Warmed39 U.vm ∧ U.heap = h0) (fun _ _ _ _ _ => True) (fun _ U o U' => ∃ v L, o = .returned v ∧ (Q_rmH Z a ka [] x1 h0 n0) v U'.heap L ∧ FrameEnd U o U' L ({ frames := 0, cells := 0, slots := 0, locals := 0 } : Room).cells ({ frames := 0, cells := 0, slots := 0, locals := 0 } : Room).slots) := by
  refine MetFree.of_bodySF (plainFor_of_name pn_0) hisR ?_
  intro p e s m args below meth c s₁ Bd hml0 hP hK
  obtain ⟨rfl, hZ, hh⟩ := hP
  have hx := Bd.exec
  have hby := Bd.bytes
  have hml : c.maxLocals = 2 := hml0
  have hown : s.vm.findClass "com/example/petri_net_analyzer/petrinetanalyzer/SparseVectorUnionPinLaw" = some m.cls := findClass_of_methodNamed Bd.named
  have hnm := (name_of_methodNamed Bd.named Bd.method).1
  have X0 : Stand p l e ({ frames := 0, cells := 0, slots := 0, locals := 0 } : Room) s m #[(.ref a), (.int x1)] below meth c s₁ [] 0 0 := Stand.of_body Bd
  have e0 : s₁.heap = h0 := by rw [← hh, Bd.state]; rfl
  have N0 := Fr.nil n0
  show own_G p e below s (Q_rmH Z a ka [] x1 h0 n0) ({ frames := 0, cells := 0, slots := 0, locals := 0 } : Room).cells ({ frames := 0, cells := 0, slots := 0, locals := 0 } : Room).slots (s₁.setTop (entryFrame m #[(.ref a), (.int x1)] 2))
  rw [ef_rmH0 m a x1]
  show own_G p e below s _ _ _ (s₁.setTop (mkF m 0 #[.val (.ref a), .val (.int x1)] []))
  refine own_go (fun _ kk_ => XS.aloadN X0.here hx rfl (hb hby d8_0) rfl rfl kk_) ?_
  show own_G p e below s _ _ _ (s₁.setTop (mkF m 1 #[.val (.ref a), .val (.int x1)] [(.ref a)]))
  have Vc1 := V_a
  obtain ⟨cl1, Ar1, q1, S1, M1, H1, G1⟩ := Vc1
  refine own_go (X0.arraylength hx (cell := cl1) (by rw [e0]; exact Ar1.1) (State.isArrayOf_alike hZ.alike Ar1.2.1) (g := (mkF m 1 #[.val (.ref a), .val (.int x1)] [(.ref a)])) rfl (rest := []) rfl (hb hby d8_1)) ?_
  rw [len_of S1 M1]
  show own_G p e below s _ _ _ (s₁.setTop (mkF m 2 #[.val (.ref a), .val (.int x1)] [(.int (0 : Int32))]))
  refine own_if_leY X0 hx (pc := 2) (pc' := 12) (hb hby d8_2) (by decide) (by decide) (by decide) ?_
  show own_G p e below s _ _ _ (s₁.setTop (mkF m 12 #[.val (.ref a), .val (.int x1)] []))
  refine own_go (fun _ kk_ => XS.aloadN X0.here hx rfl (hb hby d8_12) rfl rfl kk_) ?_
  show own_G p e below s _ _ _ (s₁.setTop (mkF m 13 #[.val (.ref a), .val (.int x1)] [(.ref a)]))
  have Vc2 := V_a
  obtain ⟨cl2, Ar2, q2, S2, M2, H2, G2⟩ := Vc2
  refine own_go (X0.arraylength hx (cell := cl2) (by rw [e0]; exact Ar2.1) (State.isArrayOf_alike hZ.alike Ar2.2.1) (g := (mkF m 13 #[.val (.ref a), .val (.int x1)] [(.ref a)])) rfl (rest := []) rfl (hb hby d8_13)) ?_
  rw [len_of S2 M2]
  show own_G p e below s _ _ _ (s₁.setTop (mkF m 14 #[.val (.ref a), .val (.int x1)] [(.int (0 : Int32))]))
  refine own_go (fun _ kk_ => XS.iconst X0.here hx rfl (hb hby d8_14) kk_) ?_
  show own_G p e below s _ _ _ (s₁.setTop (mkF m 15 #[.val (.ref a), .val (.int x1)] [(.int (1 : Int32)), (.int (0 : Int32))]))
  refine own_ic_leY X0 hx (pc := 15) (pc' := 25) (hb hby d8_15) (by decide) (by decide) (by decide) ?_
  show own_G p e below s _ _ _ (s₁.setTop (mkF m 25 #[.val (.ref a), .val (.int x1)] []))
  refine own_go (fun _ kk_ => XS.aloadN X0.here hx rfl (hb hby d8_25) rfl rfl kk_) ?_
  show own_G p e below s _ _ _ (s₁.setTop (mkF m 26 #[.val (.ref a), .val (.int x1)] [(.ref a)]))
  have Vc3 := V_a
  obtain ⟨cl3, Ar3, q3, S3, M3, H3, G3⟩ := Vc3
  refine own_go (X0.arraylength hx (cell := cl3) (by rw [e0]; exact Ar3.1) (State.isArrayOf_alike hZ.alike Ar3.2.1) (g := (mkF m 26 #[.val (.ref a), .val (.int x1)] [(.ref a)])) rfl (rest := []) rfl (hb hby d8_26)) ?_
  rw [len_of S3 M3]
  show own_G p e below s _ _ _ (s₁.setTop (mkF m 27 #[.val (.ref a), .val (.int x1)] [(.int (0 : Int32))]))
  refine own_go (fun _ kk_ => XS.iconst X0.here hx rfl (hb hby d8_27) kk_) ?_
  show own_G p e below s _ _ _ (s₁.setTop (mkF m 28 #[.val (.ref a), .val (.int x1)] [(.int (2 : Int32)), (.int (0 : Int32))]))
  refine own_ic_leY X0 hx (pc := 28) (pc' := 38) (hb hby d8_28) (by decide) (by decide) (by decide) ?_
  show own_G p e below s _ _ _ (s₁.setTop (mkF m 38 #[.val (.ref a), .val (.int x1)] []))
  refine own_go (fun _ kk_ => XS.aloadN X0.here hx rfl (hb hby d8_38) rfl rfl kk_) ?_
  show own_G p e below s _ _ _ (s₁.setTop (mkF m 39 #[.val (.ref a), .val (.int x1)] [(.ref a)]))
  have Vc4 := V_a
  obtain ⟨cl4, Ar4, q4, S4, M4, H4, G4⟩ := Vc4
  refine own_go (X0.arraylength hx (cell := cl4) (by rw [e0]; exact Ar4.1) (State.isArrayOf_alike hZ.alike Ar4.2.1) (g := (mkF m 39 #[.val (.ref a), .val (.int x1)] [(.ref a)])) rfl (rest := []) rfl (hb hby d8_39)) ?_
  rw [len_of S4 M4]
  show own_G p e below s _ _ _ (s₁.setTop (mkF m 40 #[.val (.ref a), .val (.int x1)] [(.int (0 : Int32))]))
  refine own_go (fun _ kk_ => XS.iconst X0.here hx rfl (hb hby d8_40) kk_) ?_
  show own_G p e below s _ _ _ (s₁.setTop (mkF m 41 #[.val (.ref a), .val (.int x1)] [(.int (3 : Int32)), (.int (0 : Int32))]))
  refine own_ic_leY X0 hx (pc := 41) (pc' := 55) (hb hby d8_41) (by decide) (by decide) (by decide) ?_
  show own_G p e below s _ _ _ (s₁.setTop (mkF m 55 #[.val (.ref a), .val (.int x1)] []))
  refine own_go (fun _ kk_ => XS.iconst X0.here hx rfl (hb hby d8_55) kk_) ?_
  show own_G p e below s _ _ _ (s₁.setTop (mkF m 56 #[.val (.ref a), .val (.int x1)] [(.int (0 : Int32))]))
  exact own_retN (t := .boolean) (ht := by simp) X0 hx Bd.returns (BodyLoose.notSynchronized Bd) (hb hby d8_56) e0 ⟨by simp [own_has, own_nar1, own_nar0], N0, rfl⟩ (by decide) (by decide)
theorem d8_5 : decode method_4_code 5 = .ok (.aload_n 0, 1) := by decide +kernel
theorem d8_6 : decode method_4_code 6 = .ok (.iconst 0, 1) := by decide +kernel
theorem d8_7 : decode method_4_code 7 = .ok (.iaload, 1) := by decide +kernel
theorem d8_8 : decode method_4_code 8 = .ok (.iload_n 1, 1) := by decide +kernel
theorem d8_9 : decode method_4_code 9 = .ok (.if_icmp .eq 42, 3) := by decide +kernel
theorem d8_51 : decode method_4_code 51 = .ok (.iconst 1, 1) := by decide +kernel
theorem d8_52 : decode method_4_code 52 = .ok (.goto 4, 3) := by decide +kernel
theorem ef_rmH1 (m : MethodId) (x0 : Addr) (x1 : Int32) : entryFrame m #[(.ref x0), (.int x1)] 2 = mkF m 0 #[.val (.ref x0), .val (.int x1)] [] := by first | (simp [entryFrame, mkF, argsToLocals, Value.category]; done) | rfl
set_option maxRecDepth 65536 in
set_option maxHeartbeats 40000000 in
theorem rmH1 (l : Launch) (Z : State) (a0 : Array Value) (hw : ∀ d ∈ tables_1, d.before a0 Z = true) (ws : List Jvm.Cond) (a : Addr) (ka : ClassId) (x1 : Int32) (r0 : Int32) (h0 : Heap) (n0 : Nat) (Z0 : n0 ≤ h0.size) (V_a : Arv Z h0 a ka .int (1 : Int32) [(.int r0)] (.int (0 : Int32))) :
    MetFree l (⟨"com/example/petri_net_analyzer/petrinetanalyzer/SparseVectorUnionPinLaw", "has", "([II)Z"⟩ : MethodName) (head1 (Jvm.Cond.code (⟨"com/example/petri_net_analyzer/petrinetanalyzer/SparseVectorUnionPinLaw", "has", "([II)Z"⟩ : MethodName) method_4_code 2 (some .boolean) :: ws) ({ frames := 0, cells := 0, slots := 0, locals := 0 } : Room)) (fun as_ U => as_ = #[(.ref a), (.int x1)] ∧ Z.Warmed39 U.vm ∧ U.heap = h0) (fun _ _ _ _ _ => True) (fun _ U o U' => ∃ v L, o = .returned v ∧ (Q_rmH Z a ka [r0] x1 h0 n0) v U'.heap L ∧ FrameEnd U o U' L ({ frames := 0, cells := 0, slots := 0, locals := 0 } : Room).cells ({ frames := 0, cells := 0, slots := 0, locals := 0 } : Room).slots) := by
  refine MetFree.of_bodySF (plainFor_of_name pn_0) hisR ?_
  intro p e s m args below meth c s₁ Bd hml0 hP hK
  obtain ⟨rfl, hZ, hh⟩ := hP
  have hx := Bd.exec
  have hby := Bd.bytes
  have hml : c.maxLocals = 2 := hml0
  have hown : s.vm.findClass "com/example/petri_net_analyzer/petrinetanalyzer/SparseVectorUnionPinLaw" = some m.cls := findClass_of_methodNamed Bd.named
  have hnm := (name_of_methodNamed Bd.named Bd.method).1
  have X0 : Stand p l e ({ frames := 0, cells := 0, slots := 0, locals := 0 } : Room) s m #[(.ref a), (.int x1)] below meth c s₁ [] 0 0 := Stand.of_body Bd
  have e0 : s₁.heap = h0 := by rw [← hh, Bd.state]; rfl
  have N0 := Fr.nil n0
  show own_G p e below s (Q_rmH Z a ka [r0] x1 h0 n0) ({ frames := 0, cells := 0, slots := 0, locals := 0 } : Room).cells ({ frames := 0, cells := 0, slots := 0, locals := 0 } : Room).slots (s₁.setTop (entryFrame m #[(.ref a), (.int x1)] 2))
  rw [ef_rmH1 m a x1]
  show own_G p e below s _ _ _ (s₁.setTop (mkF m 0 #[.val (.ref a), .val (.int x1)] []))
  refine own_go (fun _ kk_ => XS.aloadN X0.here hx rfl (hb hby d8_0) rfl rfl kk_) ?_
  show own_G p e below s _ _ _ (s₁.setTop (mkF m 1 #[.val (.ref a), .val (.int x1)] [(.ref a)]))
  have Vc1 := V_a
  obtain ⟨cl1, Ar1, q1, S1, M1, H1, G1⟩ := Vc1
  refine own_go (X0.arraylength hx (cell := cl1) (by rw [e0]; exact Ar1.1) (State.isArrayOf_alike hZ.alike Ar1.2.1) (g := (mkF m 1 #[.val (.ref a), .val (.int x1)] [(.ref a)])) rfl (rest := []) rfl (hb hby d8_1)) ?_
  rw [len_of S1 M1]
  show own_G p e below s _ _ _ (s₁.setTop (mkF m 2 #[.val (.ref a), .val (.int x1)] [(.int (1 : Int32))]))
  refine own_if_leN X0 hx (pc := 2) (hb hby d8_2) (by decide) ?_
  show own_G p e below s _ _ _ (s₁.setTop (mkF m 5 #[.val (.ref a), .val (.int x1)] []))
  refine own_go (fun _ kk_ => XS.aloadN X0.here hx rfl (hb hby d8_5) rfl rfl kk_) ?_
  show own_G p e below s _ _ _ (s₁.setTop (mkF m 6 #[.val (.ref a), .val (.int x1)] [(.ref a)]))
  refine own_go (fun _ kk_ => XS.iconst X0.here hx rfl (hb hby d8_6) kk_) ?_
  show own_G p e below s _ _ _ (s₁.setTop (mkF m 7 #[.val (.ref a), .val (.int x1)] [(.int (0 : Int32)), (.ref a)]))
  have Vc2 := V_a
  obtain ⟨cl2, Ar2, q2, S2, M2, H2, G2⟩ := Vc2
  have hin2 := inb_of (j := (0 : Int32)) S2 ⟨(by decide), (by decide)⟩
  have hat2 := H2.at hin2 (v := (.int r0)) rfl
  refine own_go (X0.iaload hx (j := (0 : Int32)) (v := (.int r0)) (by rw [e0]; exact Ar2.1) (State.isArrayOf_alike hZ.alike Ar2.2.1) Ar2.2.2 hin2 hat2 (g := (mkF m 7 #[.val (.ref a), .val (.int x1)] [(.int (0 : Int32)), (.ref a)])) rfl rfl (hb hby d8_7)) ?_
  show own_G p e below s _ _ _ (s₁.setTop (mkF m 8 #[.val (.ref a), .val (.int x1)] [(.int r0)]))
  refine own_go (fun _ kk_ => XS.iloadN X0.here hx rfl (hb hby d8_8) rfl kk_) ?_
  show own_G p e below s _ _ _ (s₁.setTop (mkF m 9 #[.val (.ref a), .val (.int x1)] [(.int x1), (.int r0)]))
  refine own_ic_eq X0 hx (pc := 9) (pc' := 51) (hb hby d8_9) (by decide) (by decide) (fun hc9 => ?_) (fun hc9 => ?_)
  · show own_G p e below s _ _ _ (s₁.setTop (mkF m 51 #[.val (.ref a), .val (.int x1)] []))
    refine own_go (fun _ kk_ => XS.iconst X0.here hx rfl (hb hby d8_51) kk_) ?_
    show own_G p e below s _ _ _ (s₁.setTop (mkF m 52 #[.val (.ref a), .val (.int x1)] [(.int (1 : Int32))]))
    refine own_go (fun _ kk_ => XS.goto X0.here hx rfl (pc0 := 52) (pc' := 56) rfl (hb hby d8_52) (by decide) (by decide) kk_) ?_
    show own_G p e below s _ _ _ (s₁.setTop (mkF m 56 #[.val (.ref a), .val (.int x1)] [(.int (1 : Int32))]))
    exact own_retN (t := .boolean) (ht := by simp) X0 hx Bd.returns (BodyLoose.notSynchronized Bd) (hb hby d8_56) e0 ⟨by simp [own_has, own_nar1, own_nar0, hc9], N0, rfl⟩ (by decide) (by decide)
  · show own_G p e below s _ _ _ (s₁.setTop (mkF m 12 #[.val (.ref a), .val (.int x1)] []))
    refine own_go (fun _ kk_ => XS.aloadN X0.here hx rfl (hb hby d8_12) rfl rfl kk_) ?_
    show own_G p e below s _ _ _ (s₁.setTop (mkF m 13 #[.val (.ref a), .val (.int x1)] [(.ref a)]))
    have Vc3 := V_a
    obtain ⟨cl3, Ar3, q3, S3, M3, H3, G3⟩ := Vc3
    refine own_go (X0.arraylength hx (cell := cl3) (by rw [e0]; exact Ar3.1) (State.isArrayOf_alike hZ.alike Ar3.2.1) (g := (mkF m 13 #[.val (.ref a), .val (.int x1)] [(.ref a)])) rfl (rest := []) rfl (hb hby d8_13)) ?_
    rw [len_of S3 M3]
    show own_G p e below s _ _ _ (s₁.setTop (mkF m 14 #[.val (.ref a), .val (.int x1)] [(.int (1 : Int32))]))
    refine own_go (fun _ kk_ => XS.iconst X0.here hx rfl (hb hby d8_14) kk_) ?_
    show own_G p e below s _ _ _ (s₁.setTop (mkF m 15 #[.val (.ref a), .val (.int x1)] [(.int (1 : Int32)), (.int (1 : Int32))]))
    refine own_ic_leY X0 hx (pc := 15) (pc' := 25) (hb hby d8_15) (by decide) (by decide) (by decide) ?_
    show own_G p e below s _ _ _ (s₁.setTop (mkF m 25 #[.val (.ref a), .val (.int x1)] []))
    refine own_go (fun _ kk_ => XS.aloadN X0.here hx rfl (hb hby d8_25) rfl rfl kk_) ?_
    show own_G p e below s _ _ _ (s₁.setTop (mkF m 26 #[.val (.ref a), .val (.int x1)] [(.ref a)]))
    have Vc4 := V_a
    obtain ⟨cl4, Ar4, q4, S4, M4, H4, G4⟩ := Vc4
    refine own_go (X0.arraylength hx (cell := cl4) (by rw [e0]; exact Ar4.1) (State.isArrayOf_alike hZ.alike Ar4.2.1) (g := (mkF m 26 #[.val (.ref a), .val (.int x1)] [(.ref a)])) rfl (rest := []) rfl (hb hby d8_26)) ?_
    rw [len_of S4 M4]
    show own_G p e below s _ _ _ (s₁.setTop (mkF m 27 #[.val (.ref a), .val (.int x1)] [(.int (1 : Int32))]))
    refine own_go (fun _ kk_ => XS.iconst X0.here hx rfl (hb hby d8_27) kk_) ?_
    show own_G p e below s _ _ _ (s₁.setTop (mkF m 28 #[.val (.ref a), .val (.int x1)] [(.int (2 : Int32)), (.int (1 : Int32))]))
    refine own_ic_leY X0 hx (pc := 28) (pc' := 38) (hb hby d8_28) (by decide) (by decide) (by decide) ?_
    show own_G p e below s _ _ _ (s₁.setTop (mkF m 38 #[.val (.ref a), .val (.int x1)] []))
    refine own_go (fun _ kk_ => XS.aloadN X0.here hx rfl (hb hby d8_38) rfl rfl kk_) ?_
    show own_G p e below s _ _ _ (s₁.setTop (mkF m 39 #[.val (.ref a), .val (.int x1)] [(.ref a)]))
    have Vc5 := V_a
    obtain ⟨cl5, Ar5, q5, S5, M5, H5, G5⟩ := Vc5
    refine own_go (X0.arraylength hx (cell := cl5) (by rw [e0]; exact Ar5.1) (State.isArrayOf_alike hZ.alike Ar5.2.1) (g := (mkF m 39 #[.val (.ref a), .val (.int x1)] [(.ref a)])) rfl (rest := []) rfl (hb hby d8_39)) ?_
    rw [len_of S5 M5]
    show own_G p e below s _ _ _ (s₁.setTop (mkF m 40 #[.val (.ref a), .val (.int x1)] [(.int (1 : Int32))]))
    refine own_go (fun _ kk_ => XS.iconst X0.here hx rfl (hb hby d8_40) kk_) ?_
    show own_G p e below s _ _ _ (s₁.setTop (mkF m 41 #[.val (.ref a), .val (.int x1)] [(.int (3 : Int32)), (.int (1 : Int32))]))
    refine own_ic_leY X0 hx (pc := 41) (pc' := 55) (hb hby d8_41) (by decide) (by decide) (by decide) ?_
    show own_G p e below s _ _ _ (s₁.setTop (mkF m 55 #[.val (.ref a), .val (.int x1)] []))
    refine own_go (fun _ kk_ => XS.iconst X0.here hx rfl (hb hby d8_55) kk_) ?_
    show own_G p e below s _ _ _ (s₁.setTop (mkF m 56 #[.val (.ref a), .val (.int x1)] [(.int (0 : Int32))]))
    exact own_retN (t := .boolean) (ht := by simp) X0 hx Bd.returns (BodyLoose.notSynchronized Bd) (hb hby d8_56) e0 ⟨by simp [own_has, own_nar1, own_nar0, hc9], N0, rfl⟩ (by decide) (by decide)
theorem d8_18 : decode method_4_code 18 = .ok (.aload_n 0, 1) := by decide +kernel
theorem d8_19 : decode method_4_code 19 = .ok (.iconst 1, 1) := by decide +kernel
theorem d8_20 : decode method_4_code 20 = .ok (.iaload, 1) := by decide +kernel
theorem d8_21 : decode method_4_code 21 = .ok (.iload_n 1, 1) := by decide +kernel
theorem d8_22 : decode method_4_code 22 = .ok (.if_icmp .eq 29, 3) := by decide +kernel
theorem ef_rmH2 (m : MethodId) (x0 : Addr) (x1 : Int32) : entryFrame m #[(.ref x0), (.int x1)] 2 = mkF m 0 #[.val (.ref x0), .val (.int x1)] [] := by first | (simp [entryFrame, mkF, argsToLocals, Value.category]; done) | rfl
set_option maxRecDepth 65536 in
set_option maxHeartbeats 40000000 in
theorem rmH2 (l : Launch) (Z : State) (a0 : Array Value) (hw : ∀ d ∈ tables_1, d.before a0 Z = true) (ws : List Jvm.Cond) (a : Addr) (ka : ClassId) (x1 : Int32) (r0 r1 : Int32) (h0 : Heap) (n0 : Nat) (Z0 : n0 ≤ h0.size) (V_a : Arv Z h0 a ka .int (2 : Int32) [(.int r0), (.int r1)] (.int (0 : Int32))) :
    MetFree l (⟨"com/example/petri_net_analyzer/petrinetanalyzer/SparseVectorUnionPinLaw", "has", "([II)Z"⟩ : MethodName) (head1 (Jvm.Cond.code (⟨"com/example/petri_net_analyzer/petrinetanalyzer/SparseVectorUnionPinLaw", "has", "([II)Z"⟩ : MethodName) method_4_code 2 (some .boolean) :: ws) ({ frames := 0, cells := 0, slots := 0, locals := 0 } : Room)) (fun as_ U => as_ = #[(.ref a), (.int x1)] ∧ Z.Warmed39 U.vm ∧ U.heap = h0) (fun _ _ _ _ _ => True) (fun _ U o U' => ∃ v L, o = .returned v ∧ (Q_rmH Z a ka [r0, r1] x1 h0 n0) v U'.heap L ∧ FrameEnd U o U' L ({ frames := 0, cells := 0, slots := 0, locals := 0 } : Room).cells ({ frames := 0, cells := 0, slots := 0, locals := 0 } : Room).slots) := by
  refine MetFree.of_bodySF (plainFor_of_name pn_0) hisR ?_
  intro p e s m args below meth c s₁ Bd hml0 hP hK
  obtain ⟨rfl, hZ, hh⟩ := hP
  have hx := Bd.exec
  have hby := Bd.bytes
  have hml : c.maxLocals = 2 := hml0
  have hown : s.vm.findClass "com/example/petri_net_analyzer/petrinetanalyzer/SparseVectorUnionPinLaw" = some m.cls := findClass_of_methodNamed Bd.named
  have hnm := (name_of_methodNamed Bd.named Bd.method).1
  have X0 : Stand p l e ({ frames := 0, cells := 0, slots := 0, locals := 0 } : Room) s m #[(.ref a), (.int x1)] below meth c s₁ [] 0 0 := Stand.of_body Bd
  have e0 : s₁.heap = h0 := by rw [← hh, Bd.state]; rfl
  have N0 := Fr.nil n0
  show own_G p e below s (Q_rmH Z a ka [r0, r1] x1 h0 n0) ({ frames := 0, cells := 0, slots := 0, locals := 0 } : Room).cells ({ frames := 0, cells := 0, slots := 0, locals := 0 } : Room).slots (s₁.setTop (entryFrame m #[(.ref a), (.int x1)] 2))
  rw [ef_rmH2 m a x1]
  show own_G p e below s _ _ _ (s₁.setTop (mkF m 0 #[.val (.ref a), .val (.int x1)] []))
  refine own_go (fun _ kk_ => XS.aloadN X0.here hx rfl (hb hby d8_0) rfl rfl kk_) ?_
  show own_G p e below s _ _ _ (s₁.setTop (mkF m 1 #[.val (.ref a), .val (.int x1)] [(.ref a)]))
  have Vc1 := V_a
  obtain ⟨cl1, Ar1, q1, S1, M1, H1, G1⟩ := Vc1
  refine own_go (X0.arraylength hx (cell := cl1) (by rw [e0]; exact Ar1.1) (State.isArrayOf_alike hZ.alike Ar1.2.1) (g := (mkF m 1 #[.val (.ref a), .val (.int x1)] [(.ref a)])) rfl (rest := []) rfl (hb hby d8_1)) ?_
  rw [len_of S1 M1]
  show own_G p e below s _ _ _ (s₁.setTop (mkF m 2 #[.val (.ref a), .val (.int x1)] [(.int (2 : Int32))]))
  refine own_if_leN X0 hx (pc := 2) (hb hby d8_2) (by decide) ?_
  show own_G p e below s _ _ _ (s₁.setTop (mkF m 5 #[.val (.ref a), .val (.int x1)] []))
  refine own_go (fun _ kk_ => XS.aloadN X0.here hx rfl (hb hby d8_5) rfl rfl kk_) ?_
  show own_G p e below s _ _ _ (s₁.setTop (mkF m 6 #[.val (.ref a), .val (.int x1)] [(.ref a)]))
  refine own_go (fun _ kk_ => XS.iconst X0.here hx rfl (hb hby d8_6) kk_) ?_
  show own_G p e below s _ _ _ (s₁.setTop (mkF m 7 #[.val (.ref a), .val (.int x1)] [(.int (0 : Int32)), (.ref a)]))
  have Vc2 := V_a
  obtain ⟨cl2, Ar2, q2, S2, M2, H2, G2⟩ := Vc2
  have hin2 := inb_of (j := (0 : Int32)) S2 ⟨(by decide), (by decide)⟩
  have hat2 := H2.at hin2 (v := (.int r0)) rfl
  refine own_go (X0.iaload hx (j := (0 : Int32)) (v := (.int r0)) (by rw [e0]; exact Ar2.1) (State.isArrayOf_alike hZ.alike Ar2.2.1) Ar2.2.2 hin2 hat2 (g := (mkF m 7 #[.val (.ref a), .val (.int x1)] [(.int (0 : Int32)), (.ref a)])) rfl rfl (hb hby d8_7)) ?_
  show own_G p e below s _ _ _ (s₁.setTop (mkF m 8 #[.val (.ref a), .val (.int x1)] [(.int r0)]))
  refine own_go (fun _ kk_ => XS.iloadN X0.here hx rfl (hb hby d8_8) rfl kk_) ?_
  show own_G p e below s _ _ _ (s₁.setTop (mkF m 9 #[.val (.ref a), .val (.int x1)] [(.int x1), (.int r0)]))
  refine own_ic_eq X0 hx (pc := 9) (pc' := 51) (hb hby d8_9) (by decide) (by decide) (fun hc9 => ?_) (fun hc9 => ?_)
  · show own_G p e below s _ _ _ (s₁.setTop (mkF m 51 #[.val (.ref a), .val (.int x1)] []))
    refine own_go (fun _ kk_ => XS.iconst X0.here hx rfl (hb hby d8_51) kk_) ?_
    show own_G p e below s _ _ _ (s₁.setTop (mkF m 52 #[.val (.ref a), .val (.int x1)] [(.int (1 : Int32))]))
    refine own_go (fun _ kk_ => XS.goto X0.here hx rfl (pc0 := 52) (pc' := 56) rfl (hb hby d8_52) (by decide) (by decide) kk_) ?_
    show own_G p e below s _ _ _ (s₁.setTop (mkF m 56 #[.val (.ref a), .val (.int x1)] [(.int (1 : Int32))]))
    exact own_retN (t := .boolean) (ht := by simp) X0 hx Bd.returns (BodyLoose.notSynchronized Bd) (hb hby d8_56) e0 ⟨by simp [own_has, own_nar1, own_nar0, hc9], N0, rfl⟩ (by decide) (by decide)
  · show own_G p e below s _ _ _ (s₁.setTop (mkF m 12 #[.val (.ref a), .val (.int x1)] []))
    refine own_go (fun _ kk_ => XS.aloadN X0.here hx rfl (hb hby d8_12) rfl rfl kk_) ?_
    show own_G p e below s _ _ _ (s₁.setTop (mkF m 13 #[.val (.ref a), .val (.int x1)] [(.ref a)]))
    have Vc3 := V_a
    obtain ⟨cl3, Ar3, q3, S3, M3, H3, G3⟩ := Vc3
    refine own_go (X0.arraylength hx (cell := cl3) (by rw [e0]; exact Ar3.1) (State.isArrayOf_alike hZ.alike Ar3.2.1) (g := (mkF m 13 #[.val (.ref a), .val (.int x1)] [(.ref a)])) rfl (rest := []) rfl (hb hby d8_13)) ?_
    rw [len_of S3 M3]
    show own_G p e below s _ _ _ (s₁.setTop (mkF m 14 #[.val (.ref a), .val (.int x1)] [(.int (2 : Int32))]))
    refine own_go (fun _ kk_ => XS.iconst X0.here hx rfl (hb hby d8_14) kk_) ?_
    show own_G p e below s _ _ _ (s₁.setTop (mkF m 15 #[.val (.ref a), .val (.int x1)] [(.int (1 : Int32)), (.int (2 : Int32))]))
    refine own_ic_leN X0 hx (pc := 15) (hb hby d8_15) (by decide) ?_
    show own_G p e below s _ _ _ (s₁.setTop (mkF m 18 #[.val (.ref a), .val (.int x1)] []))
    refine own_go (fun _ kk_ => XS.aloadN X0.here hx rfl (hb hby d8_18) rfl rfl kk_) ?_
    show own_G p e below s _ _ _ (s₁.setTop (mkF m 19 #[.val (.ref a), .val (.int x1)] [(.ref a)]))
    refine own_go (fun _ kk_ => XS.iconst X0.here hx rfl (hb hby d8_19) kk_) ?_
    show own_G p e below s _ _ _ (s₁.setTop (mkF m 20 #[.val (.ref a), .val (.int x1)] [(.int (1 : Int32)), (.ref a)]))
    have Vc4 := V_a
    obtain ⟨cl4, Ar4, q4, S4, M4, H4, G4⟩ := Vc4
    have hin4 := inb_of (j := (1 : Int32)) S4 ⟨(by decide), (by decide)⟩
    have hat4 := H4.at hin4 (v := (.int r1)) rfl
    refine own_go (X0.iaload hx (j := (1 : Int32)) (v := (.int r1)) (by rw [e0]; exact Ar4.1) (State.isArrayOf_alike hZ.alike Ar4.2.1) Ar4.2.2 hin4 hat4 (g := (mkF m 20 #[.val (.ref a), .val (.int x1)] [(.int (1 : Int32)), (.ref a)])) rfl rfl (hb hby d8_20)) ?_
    show own_G p e below s _ _ _ (s₁.setTop (mkF m 21 #[.val (.ref a), .val (.int x1)] [(.int r1)]))
    refine own_go (fun _ kk_ => XS.iloadN X0.here hx rfl (hb hby d8_21) rfl kk_) ?_
    show own_G p e below s _ _ _ (s₁.setTop (mkF m 22 #[.val (.ref a), .val (.int x1)] [(.int x1), (.int r1)]))
    refine own_ic_eq X0 hx (pc := 22) (pc' := 51) (hb hby d8_22) (by decide) (by decide) (fun hc22 => ?_) (fun hc22 => ?_)
    · show own_G p e below s _ _ _ (s₁.setTop (mkF m 51 #[.val (.ref a), .val (.int x1)] []))
      refine own_go (fun _ kk_ => XS.iconst X0.here hx rfl (hb hby d8_51) kk_) ?_
      show own_G p e below s _ _ _ (s₁.setTop (mkF m 52 #[.val (.ref a), .val (.int x1)] [(.int (1 : Int32))]))
      refine own_go (fun _ kk_ => XS.goto X0.here hx rfl (pc0 := 52) (pc' := 56) rfl (hb hby d8_52) (by decide) (by decide) kk_) ?_
      show own_G p e below s _ _ _ (s₁.setTop (mkF m 56 #[.val (.ref a), .val (.int x1)] [(.int (1 : Int32))]))
      exact own_retN (t := .boolean) (ht := by simp) X0 hx Bd.returns (BodyLoose.notSynchronized Bd) (hb hby d8_56) e0 ⟨by simp [own_has, own_nar1, own_nar0, hc9, hc22], N0, rfl⟩ (by decide) (by decide)
    · show own_G p e below s _ _ _ (s₁.setTop (mkF m 25 #[.val (.ref a), .val (.int x1)] []))
      refine own_go (fun _ kk_ => XS.aloadN X0.here hx rfl (hb hby d8_25) rfl rfl kk_) ?_
      show own_G p e below s _ _ _ (s₁.setTop (mkF m 26 #[.val (.ref a), .val (.int x1)] [(.ref a)]))
      have Vc5 := V_a
      obtain ⟨cl5, Ar5, q5, S5, M5, H5, G5⟩ := Vc5
      refine own_go (X0.arraylength hx (cell := cl5) (by rw [e0]; exact Ar5.1) (State.isArrayOf_alike hZ.alike Ar5.2.1) (g := (mkF m 26 #[.val (.ref a), .val (.int x1)] [(.ref a)])) rfl (rest := []) rfl (hb hby d8_26)) ?_
      rw [len_of S5 M5]
      show own_G p e below s _ _ _ (s₁.setTop (mkF m 27 #[.val (.ref a), .val (.int x1)] [(.int (2 : Int32))]))
      refine own_go (fun _ kk_ => XS.iconst X0.here hx rfl (hb hby d8_27) kk_) ?_
      show own_G p e below s _ _ _ (s₁.setTop (mkF m 28 #[.val (.ref a), .val (.int x1)] [(.int (2 : Int32)), (.int (2 : Int32))]))
      refine own_ic_leY X0 hx (pc := 28) (pc' := 38) (hb hby d8_28) (by decide) (by decide) (by decide) ?_
      show own_G p e below s _ _ _ (s₁.setTop (mkF m 38 #[.val (.ref a), .val (.int x1)] []))
      refine own_go (fun _ kk_ => XS.aloadN X0.here hx rfl (hb hby d8_38) rfl rfl kk_) ?_
      show own_G p e below s _ _ _ (s₁.setTop (mkF m 39 #[.val (.ref a), .val (.int x1)] [(.ref a)]))
      have Vc6 := V_a
      obtain ⟨cl6, Ar6, q6, S6, M6, H6, G6⟩ := Vc6
      refine own_go (X0.arraylength hx (cell := cl6) (by rw [e0]; exact Ar6.1) (State.isArrayOf_alike hZ.alike Ar6.2.1) (g := (mkF m 39 #[.val (.ref a), .val (.int x1)] [(.ref a)])) rfl (rest := []) rfl (hb hby d8_39)) ?_
      rw [len_of S6 M6]
      show own_G p e below s _ _ _ (s₁.setTop (mkF m 40 #[.val (.ref a), .val (.int x1)] [(.int (2 : Int32))]))
      refine own_go (fun _ kk_ => XS.iconst X0.here hx rfl (hb hby d8_40) kk_) ?_
      show own_G p e below s _ _ _ (s₁.setTop (mkF m 41 #[.val (.ref a), .val (.int x1)] [(.int (3 : Int32)), (.int (2 : Int32))]))
      refine own_ic_leY X0 hx (pc := 41) (pc' := 55) (hb hby d8_41) (by decide) (by decide) (by decide) ?_
      show own_G p e below s _ _ _ (s₁.setTop (mkF m 55 #[.val (.ref a), .val (.int x1)] []))
      refine own_go (fun _ kk_ => XS.iconst X0.here hx rfl (hb hby d8_55) kk_) ?_
      show own_G p e below s _ _ _ (s₁.setTop (mkF m 56 #[.val (.ref a), .val (.int x1)] [(.int (0 : Int32))]))
      exact own_retN (t := .boolean) (ht := by simp) X0 hx Bd.returns (BodyLoose.notSynchronized Bd) (hb hby d8_56) e0 ⟨by simp [own_has, own_nar1, own_nar0, hc9, hc22], N0, rfl⟩ (by decide) (by decide)
theorem d8_31 : decode method_4_code 31 = .ok (.aload_n 0, 1) := by decide +kernel
theorem d8_32 : decode method_4_code 32 = .ok (.iconst 2, 1) := by decide +kernel
theorem d8_33 : decode method_4_code 33 = .ok (.iaload, 1) := by decide +kernel
theorem d8_34 : decode method_4_code 34 = .ok (.iload_n 1, 1) := by decide +kernel
theorem d8_35 : decode method_4_code 35 = .ok (.if_icmp .eq 16, 3) := by decide +kernel
theorem ef_rmH3 (m : MethodId) (x0 : Addr) (x1 : Int32) : entryFrame m #[(.ref x0), (.int x1)] 2 = mkF m 0 #[.val (.ref x0), .val (.int x1)] [] := by first | (simp [entryFrame, mkF, argsToLocals, Value.category]; done) | rfl
set_option maxRecDepth 65536 in
set_option maxHeartbeats 40000000 in
theorem rmH3 (l : Launch) (Z : State) (a0 : Array Value) (hw : ∀ d ∈ tables_1, d.before a0 Z = true) (ws : List Jvm.Cond) (a : Addr) (ka : ClassId) (x1 : Int32) (r0 r1 r2 : Int32) (h0 : Heap) (n0 : Nat) (Z0 : n0 ≤ h0.size) (V_a : Arv Z h0 a ka .int (3 : Int32) [(.int r0), (.int r1), (.int r2)] (.int (0 : Int32))) :
    MetFree l (⟨"com/example/petri_net_analyzer/petrinetanalyzer/SparseVectorUnionPinLaw", "has", "([II)Z"⟩ : MethodName) (head1 (Jvm.Cond.code (⟨"com/example/petri_net_analyzer/petrinetanalyzer/SparseVectorUnionPinLaw", "has", "([II)Z"⟩ : MethodName) method_4_code 2 (some .boolean) :: ws) ({ frames := 0, cells := 0, slots := 0, locals := 0 } : Room)) (fun as_ U => as_ = #[(.ref a), (.int x1)] ∧ Z.Warmed39 U.vm ∧ U.heap = h0) (fun _ _ _ _ _ => True) (fun _ U o U' => ∃ v L, o = .returned v ∧ (Q_rmH Z a ka [r0, r1, r2] x1 h0 n0) v U'.heap L ∧ FrameEnd U o U' L ({ frames := 0, cells := 0, slots := 0, locals := 0 } : Room).cells ({ frames := 0, cells := 0, slots := 0, locals := 0 } : Room).slots) := by
  refine MetFree.of_bodySF (plainFor_of_name pn_0) hisR ?_
  intro p e s m args below meth c s₁ Bd hml0 hP hK
  obtain ⟨rfl, hZ, hh⟩ := hP
  have hx := Bd.exec
  have hby := Bd.bytes
  have hml : c.maxLocals = 2 := hml0
  have hown : s.vm.findClass "com/example/petri_net_analyzer/petrinetanalyzer/SparseVectorUnionPinLaw" = some m.cls := findClass_of_methodNamed Bd.named
  have hnm := (name_of_methodNamed Bd.named Bd.method).1
  have X0 : Stand p l e ({ frames := 0, cells := 0, slots := 0, locals := 0 } : Room) s m #[(.ref a), (.int x1)] below meth c s₁ [] 0 0 := Stand.of_body Bd
  have e0 : s₁.heap = h0 := by rw [← hh, Bd.state]; rfl
  have N0 := Fr.nil n0
  show own_G p e below s (Q_rmH Z a ka [r0, r1, r2] x1 h0 n0) ({ frames := 0, cells := 0, slots := 0, locals := 0 } : Room).cells ({ frames := 0, cells := 0, slots := 0, locals := 0 } : Room).slots (s₁.setTop (entryFrame m #[(.ref a), (.int x1)] 2))
  rw [ef_rmH3 m a x1]
  show own_G p e below s _ _ _ (s₁.setTop (mkF m 0 #[.val (.ref a), .val (.int x1)] []))
  refine own_go (fun _ kk_ => XS.aloadN X0.here hx rfl (hb hby d8_0) rfl rfl kk_) ?_
  show own_G p e below s _ _ _ (s₁.setTop (mkF m 1 #[.val (.ref a), .val (.int x1)] [(.ref a)]))
  have Vc1 := V_a
  obtain ⟨cl1, Ar1, q1, S1, M1, H1, G1⟩ := Vc1
  refine own_go (X0.arraylength hx (cell := cl1) (by rw [e0]; exact Ar1.1) (State.isArrayOf_alike hZ.alike Ar1.2.1) (g := (mkF m 1 #[.val (.ref a), .val (.int x1)] [(.ref a)])) rfl (rest := []) rfl (hb hby d8_1)) ?_
  rw [len_of S1 M1]
  show own_G p e below s _ _ _ (s₁.setTop (mkF m 2 #[.val (.ref a), .val (.int x1)] [(.int (3 : Int32))]))
  refine own_if_leN X0 hx (pc := 2) (hb hby d8_2) (by decide) ?_
  show own_G p e below s _ _ _ (s₁.setTop (mkF m 5 #[.val (.ref a), .val (.int x1)] []))
  refine own_go (fun _ kk_ => XS.aloadN X0.here hx rfl (hb hby d8_5) rfl rfl kk_) ?_
  show own_G p e below s _ _ _ (s₁.setTop (mkF m 6 #[.val (.ref a), .val (.int x1)] [(.ref a)]))
  refine own_go (fun _ kk_ => XS.iconst X0.here hx rfl (hb hby d8_6) kk_) ?_
  show own_G p e below s _ _ _ (s₁.setTop (mkF m 7 #[.val (.ref a), .val (.int x1)] [(.int (0 : Int32)), (.ref a)]))
  have Vc2 := V_a
  obtain ⟨cl2, Ar2, q2, S2, M2, H2, G2⟩ := Vc2
  have hin2 := inb_of (j := (0 : Int32)) S2 ⟨(by decide), (by decide)⟩
  have hat2 := H2.at hin2 (v := (.int r0)) rfl
  refine own_go (X0.iaload hx (j := (0 : Int32)) (v := (.int r0)) (by rw [e0]; exact Ar2.1) (State.isArrayOf_alike hZ.alike Ar2.2.1) Ar2.2.2 hin2 hat2 (g := (mkF m 7 #[.val (.ref a), .val (.int x1)] [(.int (0 : Int32)), (.ref a)])) rfl rfl (hb hby d8_7)) ?_
  show own_G p e below s _ _ _ (s₁.setTop (mkF m 8 #[.val (.ref a), .val (.int x1)] [(.int r0)]))
  refine own_go (fun _ kk_ => XS.iloadN X0.here hx rfl (hb hby d8_8) rfl kk_) ?_
  show own_G p e below s _ _ _ (s₁.setTop (mkF m 9 #[.val (.ref a), .val (.int x1)] [(.int x1), (.int r0)]))
  refine own_ic_eq X0 hx (pc := 9) (pc' := 51) (hb hby d8_9) (by decide) (by decide) (fun hc9 => ?_) (fun hc9 => ?_)
  · show own_G p e below s _ _ _ (s₁.setTop (mkF m 51 #[.val (.ref a), .val (.int x1)] []))
    refine own_go (fun _ kk_ => XS.iconst X0.here hx rfl (hb hby d8_51) kk_) ?_
    show own_G p e below s _ _ _ (s₁.setTop (mkF m 52 #[.val (.ref a), .val (.int x1)] [(.int (1 : Int32))]))
    refine own_go (fun _ kk_ => XS.goto X0.here hx rfl (pc0 := 52) (pc' := 56) rfl (hb hby d8_52) (by decide) (by decide) kk_) ?_
    show own_G p e below s _ _ _ (s₁.setTop (mkF m 56 #[.val (.ref a), .val (.int x1)] [(.int (1 : Int32))]))
    exact own_retN (t := .boolean) (ht := by simp) X0 hx Bd.returns (BodyLoose.notSynchronized Bd) (hb hby d8_56) e0 ⟨by simp [own_has, own_nar1, own_nar0, hc9], N0, rfl⟩ (by decide) (by decide)
  · show own_G p e below s _ _ _ (s₁.setTop (mkF m 12 #[.val (.ref a), .val (.int x1)] []))
    refine own_go (fun _ kk_ => XS.aloadN X0.here hx rfl (hb hby d8_12) rfl rfl kk_) ?_
    show own_G p e below s _ _ _ (s₁.setTop (mkF m 13 #[.val (.ref a), .val (.int x1)] [(.ref a)]))
    have Vc3 := V_a
    obtain ⟨cl3, Ar3, q3, S3, M3, H3, G3⟩ := Vc3
    refine own_go (X0.arraylength hx (cell := cl3) (by rw [e0]; exact Ar3.1) (State.isArrayOf_alike hZ.alike Ar3.2.1) (g := (mkF m 13 #[.val (.ref a), .val (.int x1)] [(.ref a)])) rfl (rest := []) rfl (hb hby d8_13)) ?_
    rw [len_of S3 M3]
    show own_G p e below s _ _ _ (s₁.setTop (mkF m 14 #[.val (.ref a), .val (.int x1)] [(.int (3 : Int32))]))
    refine own_go (fun _ kk_ => XS.iconst X0.here hx rfl (hb hby d8_14) kk_) ?_
    show own_G p e below s _ _ _ (s₁.setTop (mkF m 15 #[.val (.ref a), .val (.int x1)] [(.int (1 : Int32)), (.int (3 : Int32))]))
    refine own_ic_leN X0 hx (pc := 15) (hb hby d8_15) (by decide) ?_
    show own_G p e below s _ _ _ (s₁.setTop (mkF m 18 #[.val (.ref a), .val (.int x1)] []))
    refine own_go (fun _ kk_ => XS.aloadN X0.here hx rfl (hb hby d8_18) rfl rfl kk_) ?_
    show own_G p e below s _ _ _ (s₁.setTop (mkF m 19 #[.val (.ref a), .val (.int x1)] [(.ref a)]))
    refine own_go (fun _ kk_ => XS.iconst X0.here hx rfl (hb hby d8_19) kk_) ?_
    show own_G p e below s _ _ _ (s₁.setTop (mkF m 20 #[.val (.ref a), .val (.int x1)] [(.int (1 : Int32)), (.ref a)]))
    have Vc4 := V_a
    obtain ⟨cl4, Ar4, q4, S4, M4, H4, G4⟩ := Vc4
    have hin4 := inb_of (j := (1 : Int32)) S4 ⟨(by decide), (by decide)⟩
    have hat4 := H4.at hin4 (v := (.int r1)) rfl
    refine own_go (X0.iaload hx (j := (1 : Int32)) (v := (.int r1)) (by rw [e0]; exact Ar4.1) (State.isArrayOf_alike hZ.alike Ar4.2.1) Ar4.2.2 hin4 hat4 (g := (mkF m 20 #[.val (.ref a), .val (.int x1)] [(.int (1 : Int32)), (.ref a)])) rfl rfl (hb hby d8_20)) ?_
    show own_G p e below s _ _ _ (s₁.setTop (mkF m 21 #[.val (.ref a), .val (.int x1)] [(.int r1)]))
    refine own_go (fun _ kk_ => XS.iloadN X0.here hx rfl (hb hby d8_21) rfl kk_) ?_
    show own_G p e below s _ _ _ (s₁.setTop (mkF m 22 #[.val (.ref a), .val (.int x1)] [(.int x1), (.int r1)]))
    refine own_ic_eq X0 hx (pc := 22) (pc' := 51) (hb hby d8_22) (by decide) (by decide) (fun hc22 => ?_) (fun hc22 => ?_)
    · show own_G p e below s _ _ _ (s₁.setTop (mkF m 51 #[.val (.ref a), .val (.int x1)] []))
      refine own_go (fun _ kk_ => XS.iconst X0.here hx rfl (hb hby d8_51) kk_) ?_
      show own_G p e below s _ _ _ (s₁.setTop (mkF m 52 #[.val (.ref a), .val (.int x1)] [(.int (1 : Int32))]))
      refine own_go (fun _ kk_ => XS.goto X0.here hx rfl (pc0 := 52) (pc' := 56) rfl (hb hby d8_52) (by decide) (by decide) kk_) ?_
      show own_G p e below s _ _ _ (s₁.setTop (mkF m 56 #[.val (.ref a), .val (.int x1)] [(.int (1 : Int32))]))
      exact own_retN (t := .boolean) (ht := by simp) X0 hx Bd.returns (BodyLoose.notSynchronized Bd) (hb hby d8_56) e0 ⟨by simp [own_has, own_nar1, own_nar0, hc9, hc22], N0, rfl⟩ (by decide) (by decide)
    · show own_G p e below s _ _ _ (s₁.setTop (mkF m 25 #[.val (.ref a), .val (.int x1)] []))
      refine own_go (fun _ kk_ => XS.aloadN X0.here hx rfl (hb hby d8_25) rfl rfl kk_) ?_
      show own_G p e below s _ _ _ (s₁.setTop (mkF m 26 #[.val (.ref a), .val (.int x1)] [(.ref a)]))
      have Vc5 := V_a
      obtain ⟨cl5, Ar5, q5, S5, M5, H5, G5⟩ := Vc5
      refine own_go (X0.arraylength hx (cell := cl5) (by rw [e0]; exact Ar5.1) (State.isArrayOf_alike hZ.alike Ar5.2.1) (g := (mkF m 26 #[.val (.ref a), .val (.int x1)] [(.ref a)])) rfl (rest := []) rfl (hb hby d8_26)) ?_
      rw [len_of S5 M5]
      show own_G p e below s _ _ _ (s₁.setTop (mkF m 27 #[.val (.ref a), .val (.int x1)] [(.int (3 : Int32))]))
      refine own_go (fun _ kk_ => XS.iconst X0.here hx rfl (hb hby d8_27) kk_) ?_
      show own_G p e below s _ _ _ (s₁.setTop (mkF m 28 #[.val (.ref a), .val (.int x1)] [(.int (2 : Int32)), (.int (3 : Int32))]))
      refine own_ic_leN X0 hx (pc := 28) (hb hby d8_28) (by decide) ?_
      show own_G p e below s _ _ _ (s₁.setTop (mkF m 31 #[.val (.ref a), .val (.int x1)] []))
      refine own_go (fun _ kk_ => XS.aloadN X0.here hx rfl (hb hby d8_31) rfl rfl kk_) ?_
      show own_G p e below s _ _ _ (s₁.setTop (mkF m 32 #[.val (.ref a), .val (.int x1)] [(.ref a)]))
      refine own_go (fun _ kk_ => XS.iconst X0.here hx rfl (hb hby d8_32) kk_) ?_
      show own_G p e below s _ _ _ (s₁.setTop (mkF m 33 #[.val (.ref a), .val (.int x1)] [(.int (2 : Int32)), (.ref a)]))
      have Vc6 := V_a
      obtain ⟨cl6, Ar6, q6, S6, M6, H6, G6⟩ := Vc6
      have hin6 := inb_of (j := (2 : Int32)) S6 ⟨(by decide), (by decide)⟩
      have hat6 := H6.at hin6 (v := (.int r2)) rfl
      refine own_go (X0.iaload hx (j := (2 : Int32)) (v := (.int r2)) (by rw [e0]; exact Ar6.1) (State.isArrayOf_alike hZ.alike Ar6.2.1) Ar6.2.2 hin6 hat6 (g := (mkF m 33 #[.val (.ref a), .val (.int x1)] [(.int (2 : Int32)), (.ref a)])) rfl rfl (hb hby d8_33)) ?_
      show own_G p e below s _ _ _ (s₁.setTop (mkF m 34 #[.val (.ref a), .val (.int x1)] [(.int r2)]))
      refine own_go (fun _ kk_ => XS.iloadN X0.here hx rfl (hb hby d8_34) rfl kk_) ?_
      show own_G p e below s _ _ _ (s₁.setTop (mkF m 35 #[.val (.ref a), .val (.int x1)] [(.int x1), (.int r2)]))
      refine own_ic_eq X0 hx (pc := 35) (pc' := 51) (hb hby d8_35) (by decide) (by decide) (fun hc35 => ?_) (fun hc35 => ?_)
      · show own_G p e below s _ _ _ (s₁.setTop (mkF m 51 #[.val (.ref a), .val (.int x1)] []))
        refine own_go (fun _ kk_ => XS.iconst X0.here hx rfl (hb hby d8_51) kk_) ?_
        show own_G p e below s _ _ _ (s₁.setTop (mkF m 52 #[.val (.ref a), .val (.int x1)] [(.int (1 : Int32))]))
        refine own_go (fun _ kk_ => XS.goto X0.here hx rfl (pc0 := 52) (pc' := 56) rfl (hb hby d8_52) (by decide) (by decide) kk_) ?_
        show own_G p e below s _ _ _ (s₁.setTop (mkF m 56 #[.val (.ref a), .val (.int x1)] [(.int (1 : Int32))]))
        exact own_retN (t := .boolean) (ht := by simp) X0 hx Bd.returns (BodyLoose.notSynchronized Bd) (hb hby d8_56) e0 ⟨by simp [own_has, own_nar1, own_nar0, hc9, hc22, hc35], N0, rfl⟩ (by decide) (by decide)
      · show own_G p e below s _ _ _ (s₁.setTop (mkF m 38 #[.val (.ref a), .val (.int x1)] []))
        refine own_go (fun _ kk_ => XS.aloadN X0.here hx rfl (hb hby d8_38) rfl rfl kk_) ?_
        show own_G p e below s _ _ _ (s₁.setTop (mkF m 39 #[.val (.ref a), .val (.int x1)] [(.ref a)]))
        have Vc7 := V_a
        obtain ⟨cl7, Ar7, q7, S7, M7, H7, G7⟩ := Vc7
        refine own_go (X0.arraylength hx (cell := cl7) (by rw [e0]; exact Ar7.1) (State.isArrayOf_alike hZ.alike Ar7.2.1) (g := (mkF m 39 #[.val (.ref a), .val (.int x1)] [(.ref a)])) rfl (rest := []) rfl (hb hby d8_39)) ?_
        rw [len_of S7 M7]
        show own_G p e below s _ _ _ (s₁.setTop (mkF m 40 #[.val (.ref a), .val (.int x1)] [(.int (3 : Int32))]))
        refine own_go (fun _ kk_ => XS.iconst X0.here hx rfl (hb hby d8_40) kk_) ?_
        show own_G p e below s _ _ _ (s₁.setTop (mkF m 41 #[.val (.ref a), .val (.int x1)] [(.int (3 : Int32)), (.int (3 : Int32))]))
        refine own_ic_leY X0 hx (pc := 41) (pc' := 55) (hb hby d8_41) (by decide) (by decide) (by decide) ?_
        show own_G p e below s _ _ _ (s₁.setTop (mkF m 55 #[.val (.ref a), .val (.int x1)] []))
        refine own_go (fun _ kk_ => XS.iconst X0.here hx rfl (hb hby d8_55) kk_) ?_
        show own_G p e below s _ _ _ (s₁.setTop (mkF m 56 #[.val (.ref a), .val (.int x1)] [(.int (0 : Int32))]))
        exact own_retN (t := .boolean) (ht := by simp) X0 hx Bd.returns (BodyLoose.notSynchronized Bd) (hb hby d8_56) e0 ⟨by simp [own_has, own_nar1, own_nar0, hc9, hc22, hc35], N0, rfl⟩ (by decide) (by decide)
theorem d8_44 : decode method_4_code 44 = .ok (.aload_n 0, 1) := by decide +kernel
theorem d8_45 : decode method_4_code 45 = .ok (.iconst 3, 1) := by decide +kernel
theorem d8_46 : decode method_4_code 46 = .ok (.iaload, 1) := by decide +kernel
theorem d8_47 : decode method_4_code 47 = .ok (.iload_n 1, 1) := by decide +kernel
theorem d8_48 : decode method_4_code 48 = .ok (.if_icmp .ne 7, 3) := by decide +kernel
theorem ef_rmH4 (m : MethodId) (x0 : Addr) (x1 : Int32) : entryFrame m #[(.ref x0), (.int x1)] 2 = mkF m 0 #[.val (.ref x0), .val (.int x1)] [] := by first | (simp [entryFrame, mkF, argsToLocals, Value.category]; done) | rfl
set_option maxRecDepth 65536 in
set_option maxHeartbeats 40000000 in
theorem rmH4 (l : Launch) (Z : State) (a0 : Array Value) (hw : ∀ d ∈ tables_1, d.before a0 Z = true) (ws : List Jvm.Cond) (a : Addr) (ka : ClassId) (x1 : Int32) (r0 r1 r2 r3 : Int32) (h0 : Heap) (n0 : Nat) (Z0 : n0 ≤ h0.size) (V_a : Arv Z h0 a ka .int (4 : Int32) [(.int r0), (.int r1), (.int r2), (.int r3)] (.int (0 : Int32))) :
    MetFree l (⟨"com/example/petri_net_analyzer/petrinetanalyzer/SparseVectorUnionPinLaw", "has", "([II)Z"⟩ : MethodName) (head1 (Jvm.Cond.code (⟨"com/example/petri_net_analyzer/petrinetanalyzer/SparseVectorUnionPinLaw", "has", "([II)Z"⟩ : MethodName) method_4_code 2 (some .boolean) :: ws) ({ frames := 0, cells := 0, slots := 0, locals := 0 } : Room)) (fun as_ U => as_ = #[(.ref a), (.int x1)] ∧ Z.Warmed39 U.vm ∧ U.heap = h0) (fun _ _ _ _ _ => True) (fun _ U o U' => ∃ v L, o = .returned v ∧ (Q_rmH Z a ka [r0, r1, r2, r3] x1 h0 n0) v U'.heap L ∧ FrameEnd U o U' L ({ frames := 0, cells := 0, slots := 0, locals := 0 } : Room).cells ({ frames := 0, cells := 0, slots := 0, locals := 0 } : Room).slots) := by
  refine MetFree.of_bodySF (plainFor_of_name pn_0) hisR ?_
  intro p e s m args below meth c s₁ Bd hml0 hP hK
  obtain ⟨rfl, hZ, hh⟩ := hP
  have hx := Bd.exec
  have hby := Bd.bytes
  have hml : c.maxLocals = 2 := hml0
  have hown : s.vm.findClass "com/example/petri_net_analyzer/petrinetanalyzer/SparseVectorUnionPinLaw" = some m.cls := findClass_of_methodNamed Bd.named
  have hnm := (name_of_methodNamed Bd.named Bd.method).1
  have X0 : Stand p l e ({ frames := 0, cells := 0, slots := 0, locals := 0 } : Room) s m #[(.ref a), (.int x1)] below meth c s₁ [] 0 0 := Stand.of_body Bd
  have e0 : s₁.heap = h0 := by rw [← hh, Bd.state]; rfl
  have N0 := Fr.nil n0
  show own_G p e below s (Q_rmH Z a ka [r0, r1, r2, r3] x1 h0 n0) ({ frames := 0, cells := 0, slots := 0, locals := 0 } : Room).cells ({ frames := 0, cells := 0, slots := 0, locals := 0 } : Room).slots (s₁.setTop (entryFrame m #[(.ref a), (.int x1)] 2))
  rw [ef_rmH4 m a x1]
  show own_G p e below s _ _ _ (s₁.setTop (mkF m 0 #[.val (.ref a), .val (.int x1)] []))
  refine own_go (fun _ kk_ => XS.aloadN X0.here hx rfl (hb hby d8_0) rfl rfl kk_) ?_
  show own_G p e below s _ _ _ (s₁.setTop (mkF m 1 #[.val (.ref a), .val (.int x1)] [(.ref a)]))
  have Vc1 := V_a
  obtain ⟨cl1, Ar1, q1, S1, M1, H1, G1⟩ := Vc1
  refine own_go (X0.arraylength hx (cell := cl1) (by rw [e0]; exact Ar1.1) (State.isArrayOf_alike hZ.alike Ar1.2.1) (g := (mkF m 1 #[.val (.ref a), .val (.int x1)] [(.ref a)])) rfl (rest := []) rfl (hb hby d8_1)) ?_
  rw [len_of S1 M1]
  show own_G p e below s _ _ _ (s₁.setTop (mkF m 2 #[.val (.ref a), .val (.int x1)] [(.int (4 : Int32))]))
  refine own_if_leN X0 hx (pc := 2) (hb hby d8_2) (by decide) ?_
  show own_G p e below s _ _ _ (s₁.setTop (mkF m 5 #[.val (.ref a), .val (.int x1)] []))
  refine own_go (fun _ kk_ => XS.aloadN X0.here hx rfl (hb hby d8_5) rfl rfl kk_) ?_
  show own_G p e below s _ _ _ (s₁.setTop (mkF m 6 #[.val (.ref a), .val (.int x1)] [(.ref a)]))
  refine own_go (fun _ kk_ => XS.iconst X0.here hx rfl (hb hby d8_6) kk_) ?_
  show own_G p e below s _ _ _ (s₁.setTop (mkF m 7 #[.val (.ref a), .val (.int x1)] [(.int (0 : Int32)), (.ref a)]))
  have Vc2 := V_a
  obtain ⟨cl2, Ar2, q2, S2, M2, H2, G2⟩ := Vc2
  have hin2 := inb_of (j := (0 : Int32)) S2 ⟨(by decide), (by decide)⟩
  have hat2 := H2.at hin2 (v := (.int r0)) rfl
  refine own_go (X0.iaload hx (j := (0 : Int32)) (v := (.int r0)) (by rw [e0]; exact Ar2.1) (State.isArrayOf_alike hZ.alike Ar2.2.1) Ar2.2.2 hin2 hat2 (g := (mkF m 7 #[.val (.ref a), .val (.int x1)] [(.int (0 : Int32)), (.ref a)])) rfl rfl (hb hby d8_7)) ?_
  show own_G p e below s _ _ _ (s₁.setTop (mkF m 8 #[.val (.ref a), .val (.int x1)] [(.int r0)]))
  refine own_go (fun _ kk_ => XS.iloadN X0.here hx rfl (hb hby d8_8) rfl kk_) ?_
  show own_G p e below s _ _ _ (s₁.setTop (mkF m 9 #[.val (.ref a), .val (.int x1)] [(.int x1), (.int r0)]))
  refine own_ic_eq X0 hx (pc := 9) (pc' := 51) (hb hby d8_9) (by decide) (by decide) (fun hc9 => ?_) (fun hc9 => ?_)
  · show own_G p e below s _ _ _ (s₁.setTop (mkF m 51 #[.val (.ref a), .val (.int x1)] []))
    refine own_go (fun _ kk_ => XS.iconst X0.here hx rfl (hb hby d8_51) kk_) ?_
    show own_G p e below s _ _ _ (s₁.setTop (mkF m 52 #[.val (.ref a), .val (.int x1)] [(.int (1 : Int32))]))
    refine own_go (fun _ kk_ => XS.goto X0.here hx rfl (pc0 := 52) (pc' := 56) rfl (hb hby d8_52) (by decide) (by decide) kk_) ?_
    show own_G p e below s _ _ _ (s₁.setTop (mkF m 56 #[.val (.ref a), .val (.int x1)] [(.int (1 : Int32))]))
    exact own_retN (t := .boolean) (ht := by simp) X0 hx Bd.returns (BodyLoose.notSynchronized Bd) (hb hby d8_56) e0 ⟨by simp [own_has, own_nar1, own_nar0, hc9], N0, rfl⟩ (by decide) (by decide)
  · show own_G p e below s _ _ _ (s₁.setTop (mkF m 12 #[.val (.ref a), .val (.int x1)] []))
    refine own_go (fun _ kk_ => XS.aloadN X0.here hx rfl (hb hby d8_12) rfl rfl kk_) ?_
    show own_G p e below s _ _ _ (s₁.setTop (mkF m 13 #[.val (.ref a), .val (.int x1)] [(.ref a)]))
    have Vc3 := V_a
    obtain ⟨cl3, Ar3, q3, S3, M3, H3, G3⟩ := Vc3
    refine own_go (X0.arraylength hx (cell := cl3) (by rw [e0]; exact Ar3.1) (State.isArrayOf_alike hZ.alike Ar3.2.1) (g := (mkF m 13 #[.val (.ref a), .val (.int x1)] [(.ref a)])) rfl (rest := []) rfl (hb hby d8_13)) ?_
    rw [len_of S3 M3]
    show own_G p e below s _ _ _ (s₁.setTop (mkF m 14 #[.val (.ref a), .val (.int x1)] [(.int (4 : Int32))]))
    refine own_go (fun _ kk_ => XS.iconst X0.here hx rfl (hb hby d8_14) kk_) ?_
    show own_G p e below s _ _ _ (s₁.setTop (mkF m 15 #[.val (.ref a), .val (.int x1)] [(.int (1 : Int32)), (.int (4 : Int32))]))
    refine own_ic_leN X0 hx (pc := 15) (hb hby d8_15) (by decide) ?_
    show own_G p e below s _ _ _ (s₁.setTop (mkF m 18 #[.val (.ref a), .val (.int x1)] []))
    refine own_go (fun _ kk_ => XS.aloadN X0.here hx rfl (hb hby d8_18) rfl rfl kk_) ?_
    show own_G p e below s _ _ _ (s₁.setTop (mkF m 19 #[.val (.ref a), .val (.int x1)] [(.ref a)]))
    refine own_go (fun _ kk_ => XS.iconst X0.here hx rfl (hb hby d8_19) kk_) ?_
    show own_G p e below s _ _ _ (s₁.setTop (mkF m 20 #[.val (.ref a), .val (.int x1)] [(.int (1 : Int32)), (.ref a)]))
    have Vc4 := V_a
    obtain ⟨cl4, Ar4, q4, S4, M4, H4, G4⟩ := Vc4
    have hin4 := inb_of (j := (1 : Int32)) S4 ⟨(by decide), (by decide)⟩
    have hat4 := H4.at hin4 (v := (.int r1)) rfl
    refine own_go (X0.iaload hx (j := (1 : Int32)) (v := (.int r1)) (by rw [e0]; exact Ar4.1) (State.isArrayOf_alike hZ.alike Ar4.2.1) Ar4.2.2 hin4 hat4 (g := (mkF m 20 #[.val (.ref a), .val (.int x1)] [(.int (1 : Int32)), (.ref a)])) rfl rfl (hb hby d8_20)) ?_
    show own_G p e below s _ _ _ (s₁.setTop (mkF m 21 #[.val (.ref a), .val (.int x1)] [(.int r1)]))
    refine own_go (fun _ kk_ => XS.iloadN X0.here hx rfl (hb hby d8_21) rfl kk_) ?_
    show own_G p e below s _ _ _ (s₁.setTop (mkF m 22 #[.val (.ref a), .val (.int x1)] [(.int x1), (.int r1)]))
    refine own_ic_eq X0 hx (pc := 22) (pc' := 51) (hb hby d8_22) (by decide) (by decide) (fun hc22 => ?_) (fun hc22 => ?_)
    · show own_G p e below s _ _ _ (s₁.setTop (mkF m 51 #[.val (.ref a), .val (.int x1)] []))
      refine own_go (fun _ kk_ => XS.iconst X0.here hx rfl (hb hby d8_51) kk_) ?_
      show own_G p e below s _ _ _ (s₁.setTop (mkF m 52 #[.val (.ref a), .val (.int x1)] [(.int (1 : Int32))]))
      refine own_go (fun _ kk_ => XS.goto X0.here hx rfl (pc0 := 52) (pc' := 56) rfl (hb hby d8_52) (by decide) (by decide) kk_) ?_
      show own_G p e below s _ _ _ (s₁.setTop (mkF m 56 #[.val (.ref a), .val (.int x1)] [(.int (1 : Int32))]))
      exact own_retN (t := .boolean) (ht := by simp) X0 hx Bd.returns (BodyLoose.notSynchronized Bd) (hb hby d8_56) e0 ⟨by simp [own_has, own_nar1, own_nar0, hc9, hc22], N0, rfl⟩ (by decide) (by decide)
    · show own_G p e below s _ _ _ (s₁.setTop (mkF m 25 #[.val (.ref a), .val (.int x1)] []))
      refine own_go (fun _ kk_ => XS.aloadN X0.here hx rfl (hb hby d8_25) rfl rfl kk_) ?_
      show own_G p e below s _ _ _ (s₁.setTop (mkF m 26 #[.val (.ref a), .val (.int x1)] [(.ref a)]))
      have Vc5 := V_a
      obtain ⟨cl5, Ar5, q5, S5, M5, H5, G5⟩ := Vc5
      refine own_go (X0.arraylength hx (cell := cl5) (by rw [e0]; exact Ar5.1) (State.isArrayOf_alike hZ.alike Ar5.2.1) (g := (mkF m 26 #[.val (.ref a), .val (.int x1)] [(.ref a)])) rfl (rest := []) rfl (hb hby d8_26)) ?_
      rw [len_of S5 M5]
      show own_G p e below s _ _ _ (s₁.setTop (mkF m 27 #[.val (.ref a), .val (.int x1)] [(.int (4 : Int32))]))
      refine own_go (fun _ kk_ => XS.iconst X0.here hx rfl (hb hby d8_27) kk_) ?_
      show own_G p e below s _ _ _ (s₁.setTop (mkF m 28 #[.val (.ref a), .val (.int x1)] [(.int (2 : Int32)), (.int (4 : Int32))]))
      refine own_ic_leN X0 hx (pc := 28) (hb hby d8_28) (by decide) ?_
      show own_G p e below s _ _ _ (s₁.setTop (mkF m 31 #[.val (.ref a), .val (.int x1)] []))
      refine own_go (fun _ kk_ => XS.aloadN X0.here hx rfl (hb hby d8_31) rfl rfl kk_) ?_
      show own_G p e below s _ _ _ (s₁.setTop (mkF m 32 #[.val (.ref a), .val (.int x1)] [(.ref a)]))
      refine own_go (fun _ kk_ => XS.iconst X0.here hx rfl (hb hby d8_32) kk_) ?_
      show own_G p e below s _ _ _ (s₁.setTop (mkF m 33 #[.val (.ref a), .val (.int x1)] [(.int (2 : Int32)), (.ref a)]))
      have Vc6 := V_a
      obtain ⟨cl6, Ar6, q6, S6, M6, H6, G6⟩ := Vc6
      have hin6 := inb_of (j := (2 : Int32)) S6 ⟨(by decide), (by decide)⟩
      have hat6 := H6.at hin6 (v := (.int r2)) rfl
      refine own_go (X0.iaload hx (j := (2 : Int32)) (v := (.int r2)) (by rw [e0]; exact Ar6.1) (State.isArrayOf_alike hZ.alike Ar6.2.1) Ar6.2.2 hin6 hat6 (g := (mkF m 33 #[.val (.ref a), .val (.int x1)] [(.int (2 : Int32)), (.ref a)])) rfl rfl (hb hby d8_33)) ?_
      show own_G p e below s _ _ _ (s₁.setTop (mkF m 34 #[.val (.ref a), .val (.int x1)] [(.int r2)]))
      refine own_go (fun _ kk_ => XS.iloadN X0.here hx rfl (hb hby d8_34) rfl kk_) ?_
      show own_G p e below s _ _ _ (s₁.setTop (mkF m 35 #[.val (.ref a), .val (.int x1)] [(.int x1), (.int r2)]))
      refine own_ic_eq X0 hx (pc := 35) (pc' := 51) (hb hby d8_35) (by decide) (by decide) (fun hc35 => ?_) (fun hc35 => ?_)
      · show own_G p e below s _ _ _ (s₁.setTop (mkF m 51 #[.val (.ref a), .val (.int x1)] []))
        refine own_go (fun _ kk_ => XS.iconst X0.here hx rfl (hb hby d8_51) kk_) ?_
        show own_G p e below s _ _ _ (s₁.setTop (mkF m 52 #[.val (.ref a), .val (.int x1)] [(.int (1 : Int32))]))
        refine own_go (fun _ kk_ => XS.goto X0.here hx rfl (pc0 := 52) (pc' := 56) rfl (hb hby d8_52) (by decide) (by decide) kk_) ?_
        show own_G p e below s _ _ _ (s₁.setTop (mkF m 56 #[.val (.ref a), .val (.int x1)] [(.int (1 : Int32))]))
        exact own_retN (t := .boolean) (ht := by simp) X0 hx Bd.returns (BodyLoose.notSynchronized Bd) (hb hby d8_56) e0 ⟨by simp [own_has, own_nar1, own_nar0, hc9, hc22, hc35], N0, rfl⟩ (by decide) (by decide)
      · show own_G p e below s _ _ _ (s₁.setTop (mkF m 38 #[.val (.ref a), .val (.int x1)] []))
        refine own_go (fun _ kk_ => XS.aloadN X0.here hx rfl (hb hby d8_38) rfl rfl kk_) ?_
        show own_G p e below s _ _ _ (s₁.setTop (mkF m 39 #[.val (.ref a), .val (.int x1)] [(.ref a)]))
        have Vc7 := V_a
        obtain ⟨cl7, Ar7, q7, S7, M7, H7, G7⟩ := Vc7
        refine own_go (X0.arraylength hx (cell := cl7) (by rw [e0]; exact Ar7.1) (State.isArrayOf_alike hZ.alike Ar7.2.1) (g := (mkF m 39 #[.val (.ref a), .val (.int x1)] [(.ref a)])) rfl (rest := []) rfl (hb hby d8_39)) ?_
        rw [len_of S7 M7]
        show own_G p e below s _ _ _ (s₁.setTop (mkF m 40 #[.val (.ref a), .val (.int x1)] [(.int (4 : Int32))]))
        refine own_go (fun _ kk_ => XS.iconst X0.here hx rfl (hb hby d8_40) kk_) ?_
        show own_G p e below s _ _ _ (s₁.setTop (mkF m 41 #[.val (.ref a), .val (.int x1)] [(.int (3 : Int32)), (.int (4 : Int32))]))
        refine own_ic_leN X0 hx (pc := 41) (hb hby d8_41) (by decide) ?_
        show own_G p e below s _ _ _ (s₁.setTop (mkF m 44 #[.val (.ref a), .val (.int x1)] []))
        refine own_go (fun _ kk_ => XS.aloadN X0.here hx rfl (hb hby d8_44) rfl rfl kk_) ?_
        show own_G p e below s _ _ _ (s₁.setTop (mkF m 45 #[.val (.ref a), .val (.int x1)] [(.ref a)]))
        refine own_go (fun _ kk_ => XS.iconst X0.here hx rfl (hb hby d8_45) kk_) ?_
        show own_G p e below s _ _ _ (s₁.setTop (mkF m 46 #[.val (.ref a), .val (.int x1)] [(.int (3 : Int32)), (.ref a)]))
        have Vc8 := V_a
        obtain ⟨cl8, Ar8, q8, S8, M8, H8, G8⟩ := Vc8
        have hin8 := inb_of (j := (3 : Int32)) S8 ⟨(by decide), (by decide)⟩
        have hat8 := H8.at hin8 (v := (.int r3)) rfl
        refine own_go (X0.iaload hx (j := (3 : Int32)) (v := (.int r3)) (by rw [e0]; exact Ar8.1) (State.isArrayOf_alike hZ.alike Ar8.2.1) Ar8.2.2 hin8 hat8 (g := (mkF m 46 #[.val (.ref a), .val (.int x1)] [(.int (3 : Int32)), (.ref a)])) rfl rfl (hb hby d8_46)) ?_
        show own_G p e below s _ _ _ (s₁.setTop (mkF m 47 #[.val (.ref a), .val (.int x1)] [(.int r3)]))
        refine own_go (fun _ kk_ => XS.iloadN X0.here hx rfl (hb hby d8_47) rfl kk_) ?_
        show own_G p e below s _ _ _ (s₁.setTop (mkF m 48 #[.val (.ref a), .val (.int x1)] [(.int x1), (.int r3)]))
        refine own_ic_ne X0 hx (pc := 48) (pc' := 55) (hb hby d8_48) (by decide) (by decide) (fun hc48 => ?_) (fun hc48 => ?_)
        · show own_G p e below s _ _ _ (s₁.setTop (mkF m 55 #[.val (.ref a), .val (.int x1)] []))
          refine own_go (fun _ kk_ => XS.iconst X0.here hx rfl (hb hby d8_55) kk_) ?_
          show own_G p e below s _ _ _ (s₁.setTop (mkF m 56 #[.val (.ref a), .val (.int x1)] [(.int (0 : Int32))]))
          exact own_retN (t := .boolean) (ht := by simp) X0 hx Bd.returns (BodyLoose.notSynchronized Bd) (hb hby d8_56) e0 ⟨by simp [own_has, own_nar1, own_nar0, hc9, hc22, hc35, hc48], N0, rfl⟩ (by decide) (by decide)
        · show own_G p e below s _ _ _ (s₁.setTop (mkF m 51 #[.val (.ref a), .val (.int x1)] []))
          refine own_go (fun _ kk_ => XS.iconst X0.here hx rfl (hb hby d8_51) kk_) ?_
          show own_G p e below s _ _ _ (s₁.setTop (mkF m 52 #[.val (.ref a), .val (.int x1)] [(.int (1 : Int32))]))
          refine own_go (fun _ kk_ => XS.goto X0.here hx rfl (pc0 := 52) (pc' := 56) rfl (hb hby d8_52) (by decide) (by decide) kk_) ?_
          show own_G p e below s _ _ _ (s₁.setTop (mkF m 56 #[.val (.ref a), .val (.int x1)] [(.int (1 : Int32))]))
          exact own_retN (t := .boolean) (ht := by simp) X0 hx Bd.returns (BodyLoose.notSynchronized Bd) (hb hby d8_56) e0 ⟨by simp [own_has, own_nar1, own_nar0, hc9, hc22, hc35, hc48], N0, rfl⟩ (by decide) (by decide)
set_option maxRecDepth 65536 in
set_option maxHeartbeats 40000000 in
theorem rmH (l : Launch) (Z : State) (a0 : Array Value) (hw : ∀ d ∈ tables_1, d.before a0 Z = true) (ws : List Jvm.Cond) (a : Addr) (ka : ClassId) (lr : List Int32) (x1 : Int32) (h0 : Heap) (n0 : Nat) (Z0 : n0 ≤ h0.size) (hl : lr.length ≤ 4) (V_a : Arv Z h0 a ka .int (Int32.ofNat lr.length) (lr.map Value.int) (.int (0 : Int32))) :
    MetFree l (⟨"com/example/petri_net_analyzer/petrinetanalyzer/SparseVectorUnionPinLaw", "has", "([II)Z"⟩ : MethodName) (head1 (Jvm.Cond.code (⟨"com/example/petri_net_analyzer/petrinetanalyzer/SparseVectorUnionPinLaw", "has", "([II)Z"⟩ : MethodName) method_4_code 2 (some .boolean) :: ws) ({ frames := 0, cells := 0, slots := 0, locals := 0 } : Room)) (fun as_ U => as_ = #[(.ref a), (.int x1)] ∧ Z.Warmed39 U.vm ∧ U.heap = h0) (fun _ _ _ _ _ => True) (fun _ U o U' => ∃ v L, o = .returned v ∧ (Q_rmH Z a ka lr x1 h0 n0) v U'.heap L ∧ FrameEnd U o U' L ({ frames := 0, cells := 0, slots := 0, locals := 0 } : Room).cells ({ frames := 0, cells := 0, slots := 0, locals := 0 } : Room).slots) := by
  rcases lr with _ | ⟨r0, _ | ⟨r1, _ | ⟨r2, _ | ⟨r3, _ | ⟨r4, t_⟩⟩⟩⟩⟩
  · exact rmH0 l Z a0 hw ws a ka x1  h0 n0 Z0 V_a
  · exact rmH1 l Z a0 hw ws a ka x1 r0 h0 n0 Z0 V_a
  · exact rmH2 l Z a0 hw ws a ka x1 r0 r1 h0 n0 Z0 V_a
  · exact rmH3 l Z a0 hw ws a ka x1 r0 r1 r2 h0 n0 Z0 V_a
  · exact rmH4 l Z a0 hw ws a ka x1 r0 r1 r2 r3 h0 n0 Z0 V_a
  · exact absurd hl (by simp only [List.length_cons]; omega)
def Q_rmC (Z : State) (a : Addr) (ka : ClassId) (lr : List Int32) (h0 : Heap) (n0 : Nat) : Option Value → Heap → List Loc → Prop := fun v h L => v = some (.int 1) ∧ Fr n0 L ∧ h = h0
theorem d4_0 : decode method_5_code 0 = .ok (.aload_n 0, 1) := by decide +kernel
theorem d4_1 : decode method_5_code 1 = .ok (.arraylength, 1) := by decide +kernel
theorem d4_2 : decode method_5_code 2 = .ok (.iconst 2, 1) := by decide +kernel
theorem d4_3 : decode method_5_code 3 = .ok (.if_icmp .lt 12, 3) := by decide +kernel
theorem d4_15 : decode method_5_code 15 = .ok (.aload_n 0, 1) := by decide +kernel
theorem d4_16 : decode method_5_code 16 = .ok (.arraylength, 1) := by decide +kernel
theorem d4_17 : decode method_5_code 17 = .ok (.iconst 3, 1) := by decide +kernel
theorem d4_18 : decode method_5_code 18 = .ok (.if_icmp .lt 12, 3) := by decide +kernel
theorem d4_30 : decode method_5_code 30 = .ok (.aload_n 0, 1) := by decide +kernel
theorem d4_31 : decode method_5_code 31 = .ok (.arraylength, 1) := by decide +kernel
theorem d4_32 : decode method_5_code 32 = .ok (.iconst 4, 1) := by decide +kernel
theorem d4_33 : decode method_5_code 33 = .ok (.if_icmp .lt 12, 3) := by decide +kernel
theorem d4_45 : decode method_5_code 45 = .ok (.iconst 1, 1) := by decide +kernel
theorem d4_46 : decode method_5_code 46 = .ok (.goto 4, 3) := by decide +kernel
theorem d4_50 : decode method_5_code 50 = .ok (.ireturn, 1) := by decide +kernel
theorem ef_rmC0 (m : MethodId) (x0 : Addr) : entryFrame m #[(.ref x0)] 1 = mkF m 0 #[.val (.ref x0)] [] := by first | (simp [entryFrame, mkF, argsToLocals, Value.category]; done) | rfl
set_option maxRecDepth 65536 in
set_option maxHeartbeats 40000000 in
theorem rmC0 (l : Launch) (Z : State) (a0 : Array Value) (hw : ∀ d ∈ tables_1, d.before a0 Z = true) (ws : List Jvm.Cond) (a : Addr) (ka : ClassId)  (h0 : Heap) (n0 : Nat) (Z0 : n0 ≤ h0.size) (V_a : Arv Z h0 a ka .int (0 : Int32) [] (.int (0 : Int32)))  :
    MetFree l (⟨"com/example/petri_net_analyzer/petrinetanalyzer/SparseVectorUnionPinLaw", "increasing", "([I)Z"⟩ : MethodName) (head1 (Jvm.Cond.code (⟨"com/example/petri_net_analyzer/petrinetanalyzer/SparseVectorUnionPinLaw", "increasing", "([I)Z"⟩ : MethodName) method_5_code 1 (some .boolean) :: ws) ({ frames := 0, cells := 0, slots := 0, locals := 0 } : Room)) (fun as_ U => as_ = #[(.ref a)] ∧ Z.Warmed39 U.vm ∧ U.heap = h0) (fun _ _ _ _ _ => True) (fun _ U o U' => ∃ v L, o = .returned v ∧ (Q_rmC Z a ka [] h0 n0) v U'.heap L ∧ FrameEnd U o U' L ({ frames := 0, cells := 0, slots := 0, locals := 0 } : Room).cells ({ frames := 0, cells := 0, slots := 0, locals := 0 } : Room).slots) := by
  refine MetFree.of_bodySF (plainFor_of_name pn_0) hisR ?_
  intro p e s m args below meth c s₁ Bd hml0 hP hK
  obtain ⟨rfl, hZ, hh⟩ := hP
  have hx := Bd.exec
  have hby := Bd.bytes
  have hml : c.maxLocals = 1 := hml0
  have hown : s.vm.findClass "com/example/petri_net_analyzer/petrinetanalyzer/SparseVectorUnionPinLaw" = some m.cls := findClass_of_methodNamed Bd.named
  have hnm := (name_of_methodNamed Bd.named Bd.method).1
  have X0 : Stand p l e ({ frames := 0, cells := 0, slots := 0, locals := 0 } : Room) s m #[(.ref a)] below meth c s₁ [] 0 0 := Stand.of_body Bd
  have e0 : s₁.heap = h0 := by rw [← hh, Bd.state]; rfl
  have N0 := Fr.nil n0
  show own_G p e below s (Q_rmC Z a ka [] h0 n0) ({ frames := 0, cells := 0, slots := 0, locals := 0 } : Room).cells ({ frames := 0, cells := 0, slots := 0, locals := 0 } : Room).slots (s₁.setTop (entryFrame m #[(.ref a)] 1))
  rw [ef_rmC0 m a]
  show own_G p e below s _ _ _ (s₁.setTop (mkF m 0 #[.val (.ref a)] []))
  refine own_go (fun _ kk_ => XS.aloadN X0.here hx rfl (hb hby d4_0) rfl rfl kk_) ?_
  show own_G p e below s _ _ _ (s₁.setTop (mkF m 1 #[.val (.ref a)] [(.ref a)]))
  have Vc1 := V_a
  obtain ⟨cl1, Ar1, q1, S1, M1, H1, G1⟩ := Vc1
  refine own_go (X0.arraylength hx (cell := cl1) (by rw [e0]; exact Ar1.1) (State.isArrayOf_alike hZ.alike Ar1.2.1) (g := (mkF m 1 #[.val (.ref a)] [(.ref a)])) rfl (rest := []) rfl (hb hby d4_1)) ?_
  rw [len_of S1 M1]
  show own_G p e below s _ _ _ (s₁.setTop (mkF m 2 #[.val (.ref a)] [(.int (0 : Int32))]))
  refine own_go (fun _ kk_ => XS.iconst X0.here hx rfl (hb hby d4_2) kk_) ?_
  show own_G p e below s _ _ _ (s₁.setTop (mkF m 3 #[.val (.ref a)] [(.int (2 : Int32)), (.int (0 : Int32))]))
  refine own_ic_ltY X0 hx (pc := 3) (pc' := 15) (hb hby d4_3) (by decide) (by decide) (by decide) ?_
  show own_G p e below s _ _ _ (s₁.setTop (mkF m 15 #[.val (.ref a)] []))
  refine own_go (fun _ kk_ => XS.aloadN X0.here hx rfl (hb hby d4_15) rfl rfl kk_) ?_
  show own_G p e below s _ _ _ (s₁.setTop (mkF m 16 #[.val (.ref a)] [(.ref a)]))
  have Vc2 := V_a
  obtain ⟨cl2, Ar2, q2, S2, M2, H2, G2⟩ := Vc2
  refine own_go (X0.arraylength hx (cell := cl2) (by rw [e0]; exact Ar2.1) (State.isArrayOf_alike hZ.alike Ar2.2.1) (g := (mkF m 16 #[.val (.ref a)] [(.ref a)])) rfl (rest := []) rfl (hb hby d4_16)) ?_
  rw [len_of S2 M2]
  show own_G p e below s _ _ _ (s₁.setTop (mkF m 17 #[.val (.ref a)] [(.int (0 : Int32))]))
  refine own_go (fun _ kk_ => XS.iconst X0.here hx rfl (hb hby d4_17) kk_) ?_
  show own_G p e below s _ _ _ (s₁.setTop (mkF m 18 #[.val (.ref a)] [(.int (3 : Int32)), (.int (0 : Int32))]))
  refine own_ic_ltY X0 hx (pc := 18) (pc' := 30) (hb hby d4_18) (by decide) (by decide) (by decide) ?_
  show own_G p e below s _ _ _ (s₁.setTop (mkF m 30 #[.val (.ref a)] []))
  refine own_go (fun _ kk_ => XS.aloadN X0.here hx rfl (hb hby d4_30) rfl rfl kk_) ?_
  show own_G p e below s _ _ _ (s₁.setTop (mkF m 31 #[.val (.ref a)] [(.ref a)]))
  have Vc3 := V_a
  obtain ⟨cl3, Ar3, q3, S3, M3, H3, G3⟩ := Vc3
  refine own_go (X0.arraylength hx (cell := cl3) (by rw [e0]; exact Ar3.1) (State.isArrayOf_alike hZ.alike Ar3.2.1) (g := (mkF m 31 #[.val (.ref a)] [(.ref a)])) rfl (rest := []) rfl (hb hby d4_31)) ?_
  rw [len_of S3 M3]
  show own_G p e below s _ _ _ (s₁.setTop (mkF m 32 #[.val (.ref a)] [(.int (0 : Int32))]))
  refine own_go (fun _ kk_ => XS.iconst X0.here hx rfl (hb hby d4_32) kk_) ?_
  show own_G p e below s _ _ _ (s₁.setTop (mkF m 33 #[.val (.ref a)] [(.int (4 : Int32)), (.int (0 : Int32))]))
  refine own_ic_ltY X0 hx (pc := 33) (pc' := 45) (hb hby d4_33) (by decide) (by decide) (by decide) ?_
  show own_G p e below s _ _ _ (s₁.setTop (mkF m 45 #[.val (.ref a)] []))
  refine own_go (fun _ kk_ => XS.iconst X0.here hx rfl (hb hby d4_45) kk_) ?_
  show own_G p e below s _ _ _ (s₁.setTop (mkF m 46 #[.val (.ref a)] [(.int (1 : Int32))]))
  refine own_go (fun _ kk_ => XS.goto X0.here hx rfl (pc0 := 46) (pc' := 50) rfl (hb hby d4_46) (by decide) (by decide) kk_) ?_
  show own_G p e below s _ _ _ (s₁.setTop (mkF m 50 #[.val (.ref a)] [(.int (1 : Int32))]))
  exact own_retN (t := .boolean) (ht := by simp) X0 hx Bd.returns (BodyLoose.notSynchronized Bd) (hb hby d4_50) e0 ⟨rfl, N0, rfl⟩ (by decide) (by decide)
theorem ef_rmC1 (m : MethodId) (x0 : Addr) : entryFrame m #[(.ref x0)] 1 = mkF m 0 #[.val (.ref x0)] [] := by first | (simp [entryFrame, mkF, argsToLocals, Value.category]; done) | rfl
set_option maxRecDepth 65536 in
set_option maxHeartbeats 40000000 in
theorem rmC1 (l : Launch) (Z : State) (a0 : Array Value) (hw : ∀ d ∈ tables_1, d.before a0 Z = true) (ws : List Jvm.Cond) (a : Addr) (ka : ClassId) (r0 : Int32) (h0 : Heap) (n0 : Nat) (Z0 : n0 ≤ h0.size) (V_a : Arv Z h0 a ka .int (1 : Int32) [(.int r0)] (.int (0 : Int32)))  :
    MetFree l (⟨"com/example/petri_net_analyzer/petrinetanalyzer/SparseVectorUnionPinLaw", "increasing", "([I)Z"⟩ : MethodName) (head1 (Jvm.Cond.code (⟨"com/example/petri_net_analyzer/petrinetanalyzer/SparseVectorUnionPinLaw", "increasing", "([I)Z"⟩ : MethodName) method_5_code 1 (some .boolean) :: ws) ({ frames := 0, cells := 0, slots := 0, locals := 0 } : Room)) (fun as_ U => as_ = #[(.ref a)] ∧ Z.Warmed39 U.vm ∧ U.heap = h0) (fun _ _ _ _ _ => True) (fun _ U o U' => ∃ v L, o = .returned v ∧ (Q_rmC Z a ka [r0] h0 n0) v U'.heap L ∧ FrameEnd U o U' L ({ frames := 0, cells := 0, slots := 0, locals := 0 } : Room).cells ({ frames := 0, cells := 0, slots := 0, locals := 0 } : Room).slots) := by
  refine MetFree.of_bodySF (plainFor_of_name pn_0) hisR ?_
  intro p e s m args below meth c s₁ Bd hml0 hP hK
  obtain ⟨rfl, hZ, hh⟩ := hP
  have hx := Bd.exec
  have hby := Bd.bytes
  have hml : c.maxLocals = 1 := hml0
  have hown : s.vm.findClass "com/example/petri_net_analyzer/petrinetanalyzer/SparseVectorUnionPinLaw" = some m.cls := findClass_of_methodNamed Bd.named
  have hnm := (name_of_methodNamed Bd.named Bd.method).1
  have X0 : Stand p l e ({ frames := 0, cells := 0, slots := 0, locals := 0 } : Room) s m #[(.ref a)] below meth c s₁ [] 0 0 := Stand.of_body Bd
  have e0 : s₁.heap = h0 := by rw [← hh, Bd.state]; rfl
  have N0 := Fr.nil n0
  show own_G p e below s (Q_rmC Z a ka [r0] h0 n0) ({ frames := 0, cells := 0, slots := 0, locals := 0 } : Room).cells ({ frames := 0, cells := 0, slots := 0, locals := 0 } : Room).slots (s₁.setTop (entryFrame m #[(.ref a)] 1))
  rw [ef_rmC1 m a]
  show own_G p e below s _ _ _ (s₁.setTop (mkF m 0 #[.val (.ref a)] []))
  refine own_go (fun _ kk_ => XS.aloadN X0.here hx rfl (hb hby d4_0) rfl rfl kk_) ?_
  show own_G p e below s _ _ _ (s₁.setTop (mkF m 1 #[.val (.ref a)] [(.ref a)]))
  have Vc1 := V_a
  obtain ⟨cl1, Ar1, q1, S1, M1, H1, G1⟩ := Vc1
  refine own_go (X0.arraylength hx (cell := cl1) (by rw [e0]; exact Ar1.1) (State.isArrayOf_alike hZ.alike Ar1.2.1) (g := (mkF m 1 #[.val (.ref a)] [(.ref a)])) rfl (rest := []) rfl (hb hby d4_1)) ?_
  rw [len_of S1 M1]
  show own_G p e below s _ _ _ (s₁.setTop (mkF m 2 #[.val (.ref a)] [(.int (1 : Int32))]))
  refine own_go (fun _ kk_ => XS.iconst X0.here hx rfl (hb hby d4_2) kk_) ?_
  show own_G p e below s _ _ _ (s₁.setTop (mkF m 3 #[.val (.ref a)] [(.int (2 : Int32)), (.int (1 : Int32))]))
  refine own_ic_ltY X0 hx (pc := 3) (pc' := 15) (hb hby d4_3) (by decide) (by decide) (by decide) ?_
  show own_G p e below s _ _ _ (s₁.setTop (mkF m 15 #[.val (.ref a)] []))
  refine own_go (fun _ kk_ => XS.aloadN X0.here hx rfl (hb hby d4_15) rfl rfl kk_) ?_
  show own_G p e below s _ _ _ (s₁.setTop (mkF m 16 #[.val (.ref a)] [(.ref a)]))
  have Vc2 := V_a
  obtain ⟨cl2, Ar2, q2, S2, M2, H2, G2⟩ := Vc2
  refine own_go (X0.arraylength hx (cell := cl2) (by rw [e0]; exact Ar2.1) (State.isArrayOf_alike hZ.alike Ar2.2.1) (g := (mkF m 16 #[.val (.ref a)] [(.ref a)])) rfl (rest := []) rfl (hb hby d4_16)) ?_
  rw [len_of S2 M2]
  show own_G p e below s _ _ _ (s₁.setTop (mkF m 17 #[.val (.ref a)] [(.int (1 : Int32))]))
  refine own_go (fun _ kk_ => XS.iconst X0.here hx rfl (hb hby d4_17) kk_) ?_
  show own_G p e below s _ _ _ (s₁.setTop (mkF m 18 #[.val (.ref a)] [(.int (3 : Int32)), (.int (1 : Int32))]))
  refine own_ic_ltY X0 hx (pc := 18) (pc' := 30) (hb hby d4_18) (by decide) (by decide) (by decide) ?_
  show own_G p e below s _ _ _ (s₁.setTop (mkF m 30 #[.val (.ref a)] []))
  refine own_go (fun _ kk_ => XS.aloadN X0.here hx rfl (hb hby d4_30) rfl rfl kk_) ?_
  show own_G p e below s _ _ _ (s₁.setTop (mkF m 31 #[.val (.ref a)] [(.ref a)]))
  have Vc3 := V_a
  obtain ⟨cl3, Ar3, q3, S3, M3, H3, G3⟩ := Vc3
  refine own_go (X0.arraylength hx (cell := cl3) (by rw [e0]; exact Ar3.1) (State.isArrayOf_alike hZ.alike Ar3.2.1) (g := (mkF m 31 #[.val (.ref a)] [(.ref a)])) rfl (rest := []) rfl (hb hby d4_31)) ?_
  rw [len_of S3 M3]
  show own_G p e below s _ _ _ (s₁.setTop (mkF m 32 #[.val (.ref a)] [(.int (1 : Int32))]))
  refine own_go (fun _ kk_ => XS.iconst X0.here hx rfl (hb hby d4_32) kk_) ?_
  show own_G p e below s _ _ _ (s₁.setTop (mkF m 33 #[.val (.ref a)] [(.int (4 : Int32)), (.int (1 : Int32))]))
  refine own_ic_ltY X0 hx (pc := 33) (pc' := 45) (hb hby d4_33) (by decide) (by decide) (by decide) ?_
  show own_G p e below s _ _ _ (s₁.setTop (mkF m 45 #[.val (.ref a)] []))
  refine own_go (fun _ kk_ => XS.iconst X0.here hx rfl (hb hby d4_45) kk_) ?_
  show own_G p e below s _ _ _ (s₁.setTop (mkF m 46 #[.val (.ref a)] [(.int (1 : Int32))]))
  refine own_go (fun _ kk_ => XS.goto X0.here hx rfl (pc0 := 46) (pc' := 50) rfl (hb hby d4_46) (by decide) (by decide) kk_) ?_
  show own_G p e below s _ _ _ (s₁.setTop (mkF m 50 #[.val (.ref a)] [(.int (1 : Int32))]))
  exact own_retN (t := .boolean) (ht := by simp) X0 hx Bd.returns (BodyLoose.notSynchronized Bd) (hb hby d4_50) e0 ⟨rfl, N0, rfl⟩ (by decide) (by decide)
theorem d4_6 : decode method_5_code 6 = .ok (.aload_n 0, 1) := by decide +kernel
theorem d4_7 : decode method_5_code 7 = .ok (.iconst 0, 1) := by decide +kernel
theorem d4_8 : decode method_5_code 8 = .ok (.iaload, 1) := by decide +kernel
theorem d4_9 : decode method_5_code 9 = .ok (.aload_n 0, 1) := by decide +kernel
theorem d4_10 : decode method_5_code 10 = .ok (.iconst 1, 1) := by decide +kernel
theorem d4_11 : decode method_5_code 11 = .ok (.iaload, 1) := by decide +kernel
theorem d4_12 : decode method_5_code 12 = .ok (.if_icmp .ge 37, 3) := by decide +kernel
theorem ef_rmC2 (m : MethodId) (x0 : Addr) : entryFrame m #[(.ref x0)] 1 = mkF m 0 #[.val (.ref x0)] [] := by first | (simp [entryFrame, mkF, argsToLocals, Value.category]; done) | rfl
set_option maxRecDepth 65536 in
set_option maxHeartbeats 40000000 in
theorem rmC2 (l : Launch) (Z : State) (a0 : Array Value) (hw : ∀ d ∈ tables_1, d.before a0 Z = true) (ws : List Jvm.Cond) (a : Addr) (ka : ClassId) (r0 r1 : Int32) (h0 : Heap) (n0 : Nat) (Z0 : n0 ≤ h0.size) (V_a : Arv Z h0 a ka .int (2 : Int32) [(.int r0), (.int r1)] (.int (0 : Int32))) (hq_0 : r0 < r1) :
    MetFree l (⟨"com/example/petri_net_analyzer/petrinetanalyzer/SparseVectorUnionPinLaw", "increasing", "([I)Z"⟩ : MethodName) (head1 (Jvm.Cond.code (⟨"com/example/petri_net_analyzer/petrinetanalyzer/SparseVectorUnionPinLaw", "increasing", "([I)Z"⟩ : MethodName) method_5_code 1 (some .boolean) :: ws) ({ frames := 0, cells := 0, slots := 0, locals := 0 } : Room)) (fun as_ U => as_ = #[(.ref a)] ∧ Z.Warmed39 U.vm ∧ U.heap = h0) (fun _ _ _ _ _ => True) (fun _ U o U' => ∃ v L, o = .returned v ∧ (Q_rmC Z a ka [r0, r1] h0 n0) v U'.heap L ∧ FrameEnd U o U' L ({ frames := 0, cells := 0, slots := 0, locals := 0 } : Room).cells ({ frames := 0, cells := 0, slots := 0, locals := 0 } : Room).slots) := by
  refine MetFree.of_bodySF (plainFor_of_name pn_0) hisR ?_
  intro p e s m args below meth c s₁ Bd hml0 hP hK
  obtain ⟨rfl, hZ, hh⟩ := hP
  have hx := Bd.exec
  have hby := Bd.bytes
  have hml : c.maxLocals = 1 := hml0
  have hown : s.vm.findClass "com/example/petri_net_analyzer/petrinetanalyzer/SparseVectorUnionPinLaw" = some m.cls := findClass_of_methodNamed Bd.named
  have hnm := (name_of_methodNamed Bd.named Bd.method).1
  have X0 : Stand p l e ({ frames := 0, cells := 0, slots := 0, locals := 0 } : Room) s m #[(.ref a)] below meth c s₁ [] 0 0 := Stand.of_body Bd
  have e0 : s₁.heap = h0 := by rw [← hh, Bd.state]; rfl
  have N0 := Fr.nil n0
  show own_G p e below s (Q_rmC Z a ka [r0, r1] h0 n0) ({ frames := 0, cells := 0, slots := 0, locals := 0 } : Room).cells ({ frames := 0, cells := 0, slots := 0, locals := 0 } : Room).slots (s₁.setTop (entryFrame m #[(.ref a)] 1))
  rw [ef_rmC2 m a]
  show own_G p e below s _ _ _ (s₁.setTop (mkF m 0 #[.val (.ref a)] []))
  refine own_go (fun _ kk_ => XS.aloadN X0.here hx rfl (hb hby d4_0) rfl rfl kk_) ?_
  show own_G p e below s _ _ _ (s₁.setTop (mkF m 1 #[.val (.ref a)] [(.ref a)]))
  have Vc1 := V_a
  obtain ⟨cl1, Ar1, q1, S1, M1, H1, G1⟩ := Vc1
  refine own_go (X0.arraylength hx (cell := cl1) (by rw [e0]; exact Ar1.1) (State.isArrayOf_alike hZ.alike Ar1.2.1) (g := (mkF m 1 #[.val (.ref a)] [(.ref a)])) rfl (rest := []) rfl (hb hby d4_1)) ?_
  rw [len_of S1 M1]
  show own_G p e below s _ _ _ (s₁.setTop (mkF m 2 #[.val (.ref a)] [(.int (2 : Int32))]))
  refine own_go (fun _ kk_ => XS.iconst X0.here hx rfl (hb hby d4_2) kk_) ?_
  show own_G p e below s _ _ _ (s₁.setTop (mkF m 3 #[.val (.ref a)] [(.int (2 : Int32)), (.int (2 : Int32))]))
  refine own_ic_ltN X0 hx (pc := 3) (hb hby d4_3) (by decide) ?_
  show own_G p e below s _ _ _ (s₁.setTop (mkF m 6 #[.val (.ref a)] []))
  refine own_go (fun _ kk_ => XS.aloadN X0.here hx rfl (hb hby d4_6) rfl rfl kk_) ?_
  show own_G p e below s _ _ _ (s₁.setTop (mkF m 7 #[.val (.ref a)] [(.ref a)]))
  refine own_go (fun _ kk_ => XS.iconst X0.here hx rfl (hb hby d4_7) kk_) ?_
  show own_G p e below s _ _ _ (s₁.setTop (mkF m 8 #[.val (.ref a)] [(.int (0 : Int32)), (.ref a)]))
  have Vc2 := V_a
  obtain ⟨cl2, Ar2, q2, S2, M2, H2, G2⟩ := Vc2
  have hin2 := inb_of (j := (0 : Int32)) S2 ⟨(by decide), (by decide)⟩
  have hat2 := H2.at hin2 (v := (.int r0)) rfl
  refine own_go (X0.iaload hx (j := (0 : Int32)) (v := (.int r0)) (by rw [e0]; exact Ar2.1) (State.isArrayOf_alike hZ.alike Ar2.2.1) Ar2.2.2 hin2 hat2 (g := (mkF m 8 #[.val (.ref a)] [(.int (0 : Int32)), (.ref a)])) rfl rfl (hb hby d4_8)) ?_
  show own_G p e below s _ _ _ (s₁.setTop (mkF m 9 #[.val (.ref a)] [(.int r0)]))
  refine own_go (fun _ kk_ => XS.aloadN X0.here hx rfl (hb hby d4_9) rfl rfl kk_) ?_
  show own_G p e below s _ _ _ (s₁.setTop (mkF m 10 #[.val (.ref a)] [(.ref a), (.int r0)]))
  refine own_go (fun _ kk_ => XS.iconst X0.here hx rfl (hb hby d4_10) kk_) ?_
  show own_G p e below s _ _ _ (s₁.setTop (mkF m 11 #[.val (.ref a)] [(.int (1 : Int32)), (.ref a), (.int r0)]))
  have Vc3 := V_a
  obtain ⟨cl3, Ar3, q3, S3, M3, H3, G3⟩ := Vc3
  have hin3 := inb_of (j := (1 : Int32)) S3 ⟨(by decide), (by decide)⟩
  have hat3 := H3.at hin3 (v := (.int r1)) rfl
  refine own_go (X0.iaload hx (j := (1 : Int32)) (v := (.int r1)) (by rw [e0]; exact Ar3.1) (State.isArrayOf_alike hZ.alike Ar3.2.1) Ar3.2.2 hin3 hat3 (g := (mkF m 11 #[.val (.ref a)] [(.int (1 : Int32)), (.ref a), (.int r0)])) rfl rfl (hb hby d4_11)) ?_
  show own_G p e below s _ _ _ (s₁.setTop (mkF m 12 #[.val (.ref a)] [(.int r1), (.int r0)]))
  refine own_ic_geN X0 hx (pc := 12) (hb hby d4_12) hq_0 ?_
  show own_G p e below s _ _ _ (s₁.setTop (mkF m 15 #[.val (.ref a)] []))
  refine own_go (fun _ kk_ => XS.aloadN X0.here hx rfl (hb hby d4_15) rfl rfl kk_) ?_
  show own_G p e below s _ _ _ (s₁.setTop (mkF m 16 #[.val (.ref a)] [(.ref a)]))
  have Vc4 := V_a
  obtain ⟨cl4, Ar4, q4, S4, M4, H4, G4⟩ := Vc4
  refine own_go (X0.arraylength hx (cell := cl4) (by rw [e0]; exact Ar4.1) (State.isArrayOf_alike hZ.alike Ar4.2.1) (g := (mkF m 16 #[.val (.ref a)] [(.ref a)])) rfl (rest := []) rfl (hb hby d4_16)) ?_
  rw [len_of S4 M4]
  show own_G p e below s _ _ _ (s₁.setTop (mkF m 17 #[.val (.ref a)] [(.int (2 : Int32))]))
  refine own_go (fun _ kk_ => XS.iconst X0.here hx rfl (hb hby d4_17) kk_) ?_
  show own_G p e below s _ _ _ (s₁.setTop (mkF m 18 #[.val (.ref a)] [(.int (3 : Int32)), (.int (2 : Int32))]))
  refine own_ic_ltY X0 hx (pc := 18) (pc' := 30) (hb hby d4_18) (by decide) (by decide) (by decide) ?_
  show own_G p e below s _ _ _ (s₁.setTop (mkF m 30 #[.val (.ref a)] []))
  refine own_go (fun _ kk_ => XS.aloadN X0.here hx rfl (hb hby d4_30) rfl rfl kk_) ?_
  show own_G p e below s _ _ _ (s₁.setTop (mkF m 31 #[.val (.ref a)] [(.ref a)]))
  have Vc5 := V_a
  obtain ⟨cl5, Ar5, q5, S5, M5, H5, G5⟩ := Vc5
  refine own_go (X0.arraylength hx (cell := cl5) (by rw [e0]; exact Ar5.1) (State.isArrayOf_alike hZ.alike Ar5.2.1) (g := (mkF m 31 #[.val (.ref a)] [(.ref a)])) rfl (rest := []) rfl (hb hby d4_31)) ?_
  rw [len_of S5 M5]
  show own_G p e below s _ _ _ (s₁.setTop (mkF m 32 #[.val (.ref a)] [(.int (2 : Int32))]))
  refine own_go (fun _ kk_ => XS.iconst X0.here hx rfl (hb hby d4_32) kk_) ?_
  show own_G p e below s _ _ _ (s₁.setTop (mkF m 33 #[.val (.ref a)] [(.int (4 : Int32)), (.int (2 : Int32))]))
  refine own_ic_ltY X0 hx (pc := 33) (pc' := 45) (hb hby d4_33) (by decide) (by decide) (by decide) ?_
  show own_G p e below s _ _ _ (s₁.setTop (mkF m 45 #[.val (.ref a)] []))
  refine own_go (fun _ kk_ => XS.iconst X0.here hx rfl (hb hby d4_45) kk_) ?_
  show own_G p e below s _ _ _ (s₁.setTop (mkF m 46 #[.val (.ref a)] [(.int (1 : Int32))]))
  refine own_go (fun _ kk_ => XS.goto X0.here hx rfl (pc0 := 46) (pc' := 50) rfl (hb hby d4_46) (by decide) (by decide) kk_) ?_
  show own_G p e below s _ _ _ (s₁.setTop (mkF m 50 #[.val (.ref a)] [(.int (1 : Int32))]))
  exact own_retN (t := .boolean) (ht := by simp) X0 hx Bd.returns (BodyLoose.notSynchronized Bd) (hb hby d4_50) e0 ⟨rfl, N0, rfl⟩ (by decide) (by decide)
theorem d4_21 : decode method_5_code 21 = .ok (.aload_n 0, 1) := by decide +kernel
theorem d4_22 : decode method_5_code 22 = .ok (.iconst 1, 1) := by decide +kernel
theorem d4_23 : decode method_5_code 23 = .ok (.iaload, 1) := by decide +kernel
theorem d4_24 : decode method_5_code 24 = .ok (.aload_n 0, 1) := by decide +kernel
theorem d4_25 : decode method_5_code 25 = .ok (.iconst 2, 1) := by decide +kernel
theorem d4_26 : decode method_5_code 26 = .ok (.iaload, 1) := by decide +kernel
theorem d4_27 : decode method_5_code 27 = .ok (.if_icmp .ge 22, 3) := by decide +kernel
theorem ef_rmC3 (m : MethodId) (x0 : Addr) : entryFrame m #[(.ref x0)] 1 = mkF m 0 #[.val (.ref x0)] [] := by first | (simp [entryFrame, mkF, argsToLocals, Value.category]; done) | rfl
set_option maxRecDepth 65536 in
set_option maxHeartbeats 40000000 in
theorem rmC3 (l : Launch) (Z : State) (a0 : Array Value) (hw : ∀ d ∈ tables_1, d.before a0 Z = true) (ws : List Jvm.Cond) (a : Addr) (ka : ClassId) (r0 r1 r2 : Int32) (h0 : Heap) (n0 : Nat) (Z0 : n0 ≤ h0.size) (V_a : Arv Z h0 a ka .int (3 : Int32) [(.int r0), (.int r1), (.int r2)] (.int (0 : Int32))) (hq_0 : r0 < r1) (hq_1 : r1 < r2) :
    MetFree l (⟨"com/example/petri_net_analyzer/petrinetanalyzer/SparseVectorUnionPinLaw", "increasing", "([I)Z"⟩ : MethodName) (head1 (Jvm.Cond.code (⟨"com/example/petri_net_analyzer/petrinetanalyzer/SparseVectorUnionPinLaw", "increasing", "([I)Z"⟩ : MethodName) method_5_code 1 (some .boolean) :: ws) ({ frames := 0, cells := 0, slots := 0, locals := 0 } : Room)) (fun as_ U => as_ = #[(.ref a)] ∧ Z.Warmed39 U.vm ∧ U.heap = h0) (fun _ _ _ _ _ => True) (fun _ U o U' => ∃ v L, o = .returned v ∧ (Q_rmC Z a ka [r0, r1, r2] h0 n0) v U'.heap L ∧ FrameEnd U o U' L ({ frames := 0, cells := 0, slots := 0, locals := 0 } : Room).cells ({ frames := 0, cells := 0, slots := 0, locals := 0 } : Room).slots) := by
  refine MetFree.of_bodySF (plainFor_of_name pn_0) hisR ?_
  intro p e s m args below meth c s₁ Bd hml0 hP hK
  obtain ⟨rfl, hZ, hh⟩ := hP
  have hx := Bd.exec
  have hby := Bd.bytes
  have hml : c.maxLocals = 1 := hml0
  have hown : s.vm.findClass "com/example/petri_net_analyzer/petrinetanalyzer/SparseVectorUnionPinLaw" = some m.cls := findClass_of_methodNamed Bd.named
  have hnm := (name_of_methodNamed Bd.named Bd.method).1
  have X0 : Stand p l e ({ frames := 0, cells := 0, slots := 0, locals := 0 } : Room) s m #[(.ref a)] below meth c s₁ [] 0 0 := Stand.of_body Bd
  have e0 : s₁.heap = h0 := by rw [← hh, Bd.state]; rfl
  have N0 := Fr.nil n0
  show own_G p e below s (Q_rmC Z a ka [r0, r1, r2] h0 n0) ({ frames := 0, cells := 0, slots := 0, locals := 0 } : Room).cells ({ frames := 0, cells := 0, slots := 0, locals := 0 } : Room).slots (s₁.setTop (entryFrame m #[(.ref a)] 1))
  rw [ef_rmC3 m a]
  show own_G p e below s _ _ _ (s₁.setTop (mkF m 0 #[.val (.ref a)] []))
  refine own_go (fun _ kk_ => XS.aloadN X0.here hx rfl (hb hby d4_0) rfl rfl kk_) ?_
  show own_G p e below s _ _ _ (s₁.setTop (mkF m 1 #[.val (.ref a)] [(.ref a)]))
  have Vc1 := V_a
  obtain ⟨cl1, Ar1, q1, S1, M1, H1, G1⟩ := Vc1
  refine own_go (X0.arraylength hx (cell := cl1) (by rw [e0]; exact Ar1.1) (State.isArrayOf_alike hZ.alike Ar1.2.1) (g := (mkF m 1 #[.val (.ref a)] [(.ref a)])) rfl (rest := []) rfl (hb hby d4_1)) ?_
  rw [len_of S1 M1]
  show own_G p e below s _ _ _ (s₁.setTop (mkF m 2 #[.val (.ref a)] [(.int (3 : Int32))]))
  refine own_go (fun _ kk_ => XS.iconst X0.here hx rfl (hb hby d4_2) kk_) ?_
  show own_G p e below s _ _ _ (s₁.setTop (mkF m 3 #[.val (.ref a)] [(.int (2 : Int32)), (.int (3 : Int32))]))
  refine own_ic_ltN X0 hx (pc := 3) (hb hby d4_3) (by decide) ?_
  show own_G p e below s _ _ _ (s₁.setTop (mkF m 6 #[.val (.ref a)] []))
  refine own_go (fun _ kk_ => XS.aloadN X0.here hx rfl (hb hby d4_6) rfl rfl kk_) ?_
  show own_G p e below s _ _ _ (s₁.setTop (mkF m 7 #[.val (.ref a)] [(.ref a)]))
  refine own_go (fun _ kk_ => XS.iconst X0.here hx rfl (hb hby d4_7) kk_) ?_
  show own_G p e below s _ _ _ (s₁.setTop (mkF m 8 #[.val (.ref a)] [(.int (0 : Int32)), (.ref a)]))
  have Vc2 := V_a
  obtain ⟨cl2, Ar2, q2, S2, M2, H2, G2⟩ := Vc2
  have hin2 := inb_of (j := (0 : Int32)) S2 ⟨(by decide), (by decide)⟩
  have hat2 := H2.at hin2 (v := (.int r0)) rfl
  refine own_go (X0.iaload hx (j := (0 : Int32)) (v := (.int r0)) (by rw [e0]; exact Ar2.1) (State.isArrayOf_alike hZ.alike Ar2.2.1) Ar2.2.2 hin2 hat2 (g := (mkF m 8 #[.val (.ref a)] [(.int (0 : Int32)), (.ref a)])) rfl rfl (hb hby d4_8)) ?_
  show own_G p e below s _ _ _ (s₁.setTop (mkF m 9 #[.val (.ref a)] [(.int r0)]))
  refine own_go (fun _ kk_ => XS.aloadN X0.here hx rfl (hb hby d4_9) rfl rfl kk_) ?_
  show own_G p e below s _ _ _ (s₁.setTop (mkF m 10 #[.val (.ref a)] [(.ref a), (.int r0)]))
  refine own_go (fun _ kk_ => XS.iconst X0.here hx rfl (hb hby d4_10) kk_) ?_
  show own_G p e below s _ _ _ (s₁.setTop (mkF m 11 #[.val (.ref a)] [(.int (1 : Int32)), (.ref a), (.int r0)]))
  have Vc3 := V_a
  obtain ⟨cl3, Ar3, q3, S3, M3, H3, G3⟩ := Vc3
  have hin3 := inb_of (j := (1 : Int32)) S3 ⟨(by decide), (by decide)⟩
  have hat3 := H3.at hin3 (v := (.int r1)) rfl
  refine own_go (X0.iaload hx (j := (1 : Int32)) (v := (.int r1)) (by rw [e0]; exact Ar3.1) (State.isArrayOf_alike hZ.alike Ar3.2.1) Ar3.2.2 hin3 hat3 (g := (mkF m 11 #[.val (.ref a)] [(.int (1 : Int32)), (.ref a), (.int r0)])) rfl rfl (hb hby d4_11)) ?_
  show own_G p e below s _ _ _ (s₁.setTop (mkF m 12 #[.val (.ref a)] [(.int r1), (.int r0)]))
  refine own_ic_geN X0 hx (pc := 12) (hb hby d4_12) hq_0 ?_
  show own_G p e below s _ _ _ (s₁.setTop (mkF m 15 #[.val (.ref a)] []))
  refine own_go (fun _ kk_ => XS.aloadN X0.here hx rfl (hb hby d4_15) rfl rfl kk_) ?_
  show own_G p e below s _ _ _ (s₁.setTop (mkF m 16 #[.val (.ref a)] [(.ref a)]))
  have Vc4 := V_a
  obtain ⟨cl4, Ar4, q4, S4, M4, H4, G4⟩ := Vc4
  refine own_go (X0.arraylength hx (cell := cl4) (by rw [e0]; exact Ar4.1) (State.isArrayOf_alike hZ.alike Ar4.2.1) (g := (mkF m 16 #[.val (.ref a)] [(.ref a)])) rfl (rest := []) rfl (hb hby d4_16)) ?_
  rw [len_of S4 M4]
  show own_G p e below s _ _ _ (s₁.setTop (mkF m 17 #[.val (.ref a)] [(.int (3 : Int32))]))
  refine own_go (fun _ kk_ => XS.iconst X0.here hx rfl (hb hby d4_17) kk_) ?_
  show own_G p e below s _ _ _ (s₁.setTop (mkF m 18 #[.val (.ref a)] [(.int (3 : Int32)), (.int (3 : Int32))]))
  refine own_ic_ltN X0 hx (pc := 18) (hb hby d4_18) (by decide) ?_
  show own_G p e below s _ _ _ (s₁.setTop (mkF m 21 #[.val (.ref a)] []))
  refine own_go (fun _ kk_ => XS.aloadN X0.here hx rfl (hb hby d4_21) rfl rfl kk_) ?_
  show own_G p e below s _ _ _ (s₁.setTop (mkF m 22 #[.val (.ref a)] [(.ref a)]))
  refine own_go (fun _ kk_ => XS.iconst X0.here hx rfl (hb hby d4_22) kk_) ?_
  show own_G p e below s _ _ _ (s₁.setTop (mkF m 23 #[.val (.ref a)] [(.int (1 : Int32)), (.ref a)]))
  have Vc5 := V_a
  obtain ⟨cl5, Ar5, q5, S5, M5, H5, G5⟩ := Vc5
  have hin5 := inb_of (j := (1 : Int32)) S5 ⟨(by decide), (by decide)⟩
  have hat5 := H5.at hin5 (v := (.int r1)) rfl
  refine own_go (X0.iaload hx (j := (1 : Int32)) (v := (.int r1)) (by rw [e0]; exact Ar5.1) (State.isArrayOf_alike hZ.alike Ar5.2.1) Ar5.2.2 hin5 hat5 (g := (mkF m 23 #[.val (.ref a)] [(.int (1 : Int32)), (.ref a)])) rfl rfl (hb hby d4_23)) ?_
  show own_G p e below s _ _ _ (s₁.setTop (mkF m 24 #[.val (.ref a)] [(.int r1)]))
  refine own_go (fun _ kk_ => XS.aloadN X0.here hx rfl (hb hby d4_24) rfl rfl kk_) ?_
  show own_G p e below s _ _ _ (s₁.setTop (mkF m 25 #[.val (.ref a)] [(.ref a), (.int r1)]))
  refine own_go (fun _ kk_ => XS.iconst X0.here hx rfl (hb hby d4_25) kk_) ?_
  show own_G p e below s _ _ _ (s₁.setTop (mkF m 26 #[.val (.ref a)] [(.int (2 : Int32)), (.ref a), (.int r1)]))
  have Vc6 := V_a
  obtain ⟨cl6, Ar6, q6, S6, M6, H6, G6⟩ := Vc6
  have hin6 := inb_of (j := (2 : Int32)) S6 ⟨(by decide), (by decide)⟩
  have hat6 := H6.at hin6 (v := (.int r2)) rfl
  refine own_go (X0.iaload hx (j := (2 : Int32)) (v := (.int r2)) (by rw [e0]; exact Ar6.1) (State.isArrayOf_alike hZ.alike Ar6.2.1) Ar6.2.2 hin6 hat6 (g := (mkF m 26 #[.val (.ref a)] [(.int (2 : Int32)), (.ref a), (.int r1)])) rfl rfl (hb hby d4_26)) ?_
  show own_G p e below s _ _ _ (s₁.setTop (mkF m 27 #[.val (.ref a)] [(.int r2), (.int r1)]))
  refine own_ic_geN X0 hx (pc := 27) (hb hby d4_27) hq_1 ?_
  show own_G p e below s _ _ _ (s₁.setTop (mkF m 30 #[.val (.ref a)] []))
  refine own_go (fun _ kk_ => XS.aloadN X0.here hx rfl (hb hby d4_30) rfl rfl kk_) ?_
  show own_G p e below s _ _ _ (s₁.setTop (mkF m 31 #[.val (.ref a)] [(.ref a)]))
  have Vc7 := V_a
  obtain ⟨cl7, Ar7, q7, S7, M7, H7, G7⟩ := Vc7
  refine own_go (X0.arraylength hx (cell := cl7) (by rw [e0]; exact Ar7.1) (State.isArrayOf_alike hZ.alike Ar7.2.1) (g := (mkF m 31 #[.val (.ref a)] [(.ref a)])) rfl (rest := []) rfl (hb hby d4_31)) ?_
  rw [len_of S7 M7]
  show own_G p e below s _ _ _ (s₁.setTop (mkF m 32 #[.val (.ref a)] [(.int (3 : Int32))]))
  refine own_go (fun _ kk_ => XS.iconst X0.here hx rfl (hb hby d4_32) kk_) ?_
  show own_G p e below s _ _ _ (s₁.setTop (mkF m 33 #[.val (.ref a)] [(.int (4 : Int32)), (.int (3 : Int32))]))
  refine own_ic_ltY X0 hx (pc := 33) (pc' := 45) (hb hby d4_33) (by decide) (by decide) (by decide) ?_
  show own_G p e below s _ _ _ (s₁.setTop (mkF m 45 #[.val (.ref a)] []))
  refine own_go (fun _ kk_ => XS.iconst X0.here hx rfl (hb hby d4_45) kk_) ?_
  show own_G p e below s _ _ _ (s₁.setTop (mkF m 46 #[.val (.ref a)] [(.int (1 : Int32))]))
  refine own_go (fun _ kk_ => XS.goto X0.here hx rfl (pc0 := 46) (pc' := 50) rfl (hb hby d4_46) (by decide) (by decide) kk_) ?_
  show own_G p e below s _ _ _ (s₁.setTop (mkF m 50 #[.val (.ref a)] [(.int (1 : Int32))]))
  exact own_retN (t := .boolean) (ht := by simp) X0 hx Bd.returns (BodyLoose.notSynchronized Bd) (hb hby d4_50) e0 ⟨rfl, N0, rfl⟩ (by decide) (by decide)
theorem d4_36 : decode method_5_code 36 = .ok (.aload_n 0, 1) := by decide +kernel
theorem d4_37 : decode method_5_code 37 = .ok (.iconst 2, 1) := by decide +kernel
theorem d4_38 : decode method_5_code 38 = .ok (.iaload, 1) := by decide +kernel
theorem d4_39 : decode method_5_code 39 = .ok (.aload_n 0, 1) := by decide +kernel
theorem d4_40 : decode method_5_code 40 = .ok (.iconst 3, 1) := by decide +kernel
theorem d4_41 : decode method_5_code 41 = .ok (.iaload, 1) := by decide +kernel
theorem d4_42 : decode method_5_code 42 = .ok (.if_icmp .ge 7, 3) := by decide +kernel
theorem ef_rmC4 (m : MethodId) (x0 : Addr) : entryFrame m #[(.ref x0)] 1 = mkF m 0 #[.val (.ref x0)] [] := by first | (simp [entryFrame, mkF, argsToLocals, Value.category]; done) | rfl
set_option maxRecDepth 65536 in
set_option maxHeartbeats 40000000 in
theorem rmC4 (l : Launch) (Z : State) (a0 : Array Value) (hw : ∀ d ∈ tables_1, d.before a0 Z = true) (ws : List Jvm.Cond) (a : Addr) (ka : ClassId) (r0 r1 r2 r3 : Int32) (h0 : Heap) (n0 : Nat) (Z0 : n0 ≤ h0.size) (V_a : Arv Z h0 a ka .int (4 : Int32) [(.int r0), (.int r1), (.int r2), (.int r3)] (.int (0 : Int32))) (hq_0 : r0 < r1) (hq_1 : r1 < r2) (hq_2 : r2 < r3) :
    MetFree l (⟨"com/example/petri_net_analyzer/petrinetanalyzer/SparseVectorUnionPinLaw", "increasing", "([I)Z"⟩ : MethodName) (head1 (Jvm.Cond.code (⟨"com/example/petri_net_analyzer/petrinetanalyzer/SparseVectorUnionPinLaw", "increasing", "([I)Z"⟩ : MethodName) method_5_code 1 (some .boolean) :: ws) ({ frames := 0, cells := 0, slots := 0, locals := 0 } : Room)) (fun as_ U => as_ = #[(.ref a)] ∧ Z.Warmed39 U.vm ∧ U.heap = h0) (fun _ _ _ _ _ => True) (fun _ U o U' => ∃ v L, o = .returned v ∧ (Q_rmC Z a ka [r0, r1, r2, r3] h0 n0) v U'.heap L ∧ FrameEnd U o U' L ({ frames := 0, cells := 0, slots := 0, locals := 0 } : Room).cells ({ frames := 0, cells := 0, slots := 0, locals := 0 } : Room).slots) := by
  refine MetFree.of_bodySF (plainFor_of_name pn_0) hisR ?_
  intro p e s m args below meth c s₁ Bd hml0 hP hK
  obtain ⟨rfl, hZ, hh⟩ := hP
  have hx := Bd.exec
  have hby := Bd.bytes
  have hml : c.maxLocals = 1 := hml0
  have hown : s.vm.findClass "com/example/petri_net_analyzer/petrinetanalyzer/SparseVectorUnionPinLaw" = some m.cls := findClass_of_methodNamed Bd.named
  have hnm := (name_of_methodNamed Bd.named Bd.method).1
  have X0 : Stand p l e ({ frames := 0, cells := 0, slots := 0, locals := 0 } : Room) s m #[(.ref a)] below meth c s₁ [] 0 0 := Stand.of_body Bd
  have e0 : s₁.heap = h0 := by rw [← hh, Bd.state]; rfl
  have N0 := Fr.nil n0
  show own_G p e below s (Q_rmC Z a ka [r0, r1, r2, r3] h0 n0) ({ frames := 0, cells := 0, slots := 0, locals := 0 } : Room).cells ({ frames := 0, cells := 0, slots := 0, locals := 0 } : Room).slots (s₁.setTop (entryFrame m #[(.ref a)] 1))
  rw [ef_rmC4 m a]
  show own_G p e below s _ _ _ (s₁.setTop (mkF m 0 #[.val (.ref a)] []))
  refine own_go (fun _ kk_ => XS.aloadN X0.here hx rfl (hb hby d4_0) rfl rfl kk_) ?_
  show own_G p e below s _ _ _ (s₁.setTop (mkF m 1 #[.val (.ref a)] [(.ref a)]))
  have Vc1 := V_a
  obtain ⟨cl1, Ar1, q1, S1, M1, H1, G1⟩ := Vc1
  refine own_go (X0.arraylength hx (cell := cl1) (by rw [e0]; exact Ar1.1) (State.isArrayOf_alike hZ.alike Ar1.2.1) (g := (mkF m 1 #[.val (.ref a)] [(.ref a)])) rfl (rest := []) rfl (hb hby d4_1)) ?_
  rw [len_of S1 M1]
  show own_G p e below s _ _ _ (s₁.setTop (mkF m 2 #[.val (.ref a)] [(.int (4 : Int32))]))
  refine own_go (fun _ kk_ => XS.iconst X0.here hx rfl (hb hby d4_2) kk_) ?_
  show own_G p e below s _ _ _ (s₁.setTop (mkF m 3 #[.val (.ref a)] [(.int (2 : Int32)), (.int (4 : Int32))]))
  refine own_ic_ltN X0 hx (pc := 3) (hb hby d4_3) (by decide) ?_
  show own_G p e below s _ _ _ (s₁.setTop (mkF m 6 #[.val (.ref a)] []))
  refine own_go (fun _ kk_ => XS.aloadN X0.here hx rfl (hb hby d4_6) rfl rfl kk_) ?_
  show own_G p e below s _ _ _ (s₁.setTop (mkF m 7 #[.val (.ref a)] [(.ref a)]))
  refine own_go (fun _ kk_ => XS.iconst X0.here hx rfl (hb hby d4_7) kk_) ?_
  show own_G p e below s _ _ _ (s₁.setTop (mkF m 8 #[.val (.ref a)] [(.int (0 : Int32)), (.ref a)]))
  have Vc2 := V_a
  obtain ⟨cl2, Ar2, q2, S2, M2, H2, G2⟩ := Vc2
  have hin2 := inb_of (j := (0 : Int32)) S2 ⟨(by decide), (by decide)⟩
  have hat2 := H2.at hin2 (v := (.int r0)) rfl
  refine own_go (X0.iaload hx (j := (0 : Int32)) (v := (.int r0)) (by rw [e0]; exact Ar2.1) (State.isArrayOf_alike hZ.alike Ar2.2.1) Ar2.2.2 hin2 hat2 (g := (mkF m 8 #[.val (.ref a)] [(.int (0 : Int32)), (.ref a)])) rfl rfl (hb hby d4_8)) ?_
  show own_G p e below s _ _ _ (s₁.setTop (mkF m 9 #[.val (.ref a)] [(.int r0)]))
  refine own_go (fun _ kk_ => XS.aloadN X0.here hx rfl (hb hby d4_9) rfl rfl kk_) ?_
  show own_G p e below s _ _ _ (s₁.setTop (mkF m 10 #[.val (.ref a)] [(.ref a), (.int r0)]))
  refine own_go (fun _ kk_ => XS.iconst X0.here hx rfl (hb hby d4_10) kk_) ?_
  show own_G p e below s _ _ _ (s₁.setTop (mkF m 11 #[.val (.ref a)] [(.int (1 : Int32)), (.ref a), (.int r0)]))
  have Vc3 := V_a
  obtain ⟨cl3, Ar3, q3, S3, M3, H3, G3⟩ := Vc3
  have hin3 := inb_of (j := (1 : Int32)) S3 ⟨(by decide), (by decide)⟩
  have hat3 := H3.at hin3 (v := (.int r1)) rfl
  refine own_go (X0.iaload hx (j := (1 : Int32)) (v := (.int r1)) (by rw [e0]; exact Ar3.1) (State.isArrayOf_alike hZ.alike Ar3.2.1) Ar3.2.2 hin3 hat3 (g := (mkF m 11 #[.val (.ref a)] [(.int (1 : Int32)), (.ref a), (.int r0)])) rfl rfl (hb hby d4_11)) ?_
  show own_G p e below s _ _ _ (s₁.setTop (mkF m 12 #[.val (.ref a)] [(.int r1), (.int r0)]))
  refine own_ic_geN X0 hx (pc := 12) (hb hby d4_12) hq_0 ?_
  show own_G p e below s _ _ _ (s₁.setTop (mkF m 15 #[.val (.ref a)] []))
  refine own_go (fun _ kk_ => XS.aloadN X0.here hx rfl (hb hby d4_15) rfl rfl kk_) ?_
  show own_G p e below s _ _ _ (s₁.setTop (mkF m 16 #[.val (.ref a)] [(.ref a)]))
  have Vc4 := V_a
  obtain ⟨cl4, Ar4, q4, S4, M4, H4, G4⟩ := Vc4
  refine own_go (X0.arraylength hx (cell := cl4) (by rw [e0]; exact Ar4.1) (State.isArrayOf_alike hZ.alike Ar4.2.1) (g := (mkF m 16 #[.val (.ref a)] [(.ref a)])) rfl (rest := []) rfl (hb hby d4_16)) ?_
  rw [len_of S4 M4]
  show own_G p e below s _ _ _ (s₁.setTop (mkF m 17 #[.val (.ref a)] [(.int (4 : Int32))]))
  refine own_go (fun _ kk_ => XS.iconst X0.here hx rfl (hb hby d4_17) kk_) ?_
  show own_G p e below s _ _ _ (s₁.setTop (mkF m 18 #[.val (.ref a)] [(.int (3 : Int32)), (.int (4 : Int32))]))
  refine own_ic_ltN X0 hx (pc := 18) (hb hby d4_18) (by decide) ?_
  show own_G p e below s _ _ _ (s₁.setTop (mkF m 21 #[.val (.ref a)] []))
  refine own_go (fun _ kk_ => XS.aloadN X0.here hx rfl (hb hby d4_21) rfl rfl kk_) ?_
  show own_G p e below s _ _ _ (s₁.setTop (mkF m 22 #[.val (.ref a)] [(.ref a)]))
  refine own_go (fun _ kk_ => XS.iconst X0.here hx rfl (hb hby d4_22) kk_) ?_
  show own_G p e below s _ _ _ (s₁.setTop (mkF m 23 #[.val (.ref a)] [(.int (1 : Int32)), (.ref a)]))
  have Vc5 := V_a
  obtain ⟨cl5, Ar5, q5, S5, M5, H5, G5⟩ := Vc5
  have hin5 := inb_of (j := (1 : Int32)) S5 ⟨(by decide), (by decide)⟩
  have hat5 := H5.at hin5 (v := (.int r1)) rfl
  refine own_go (X0.iaload hx (j := (1 : Int32)) (v := (.int r1)) (by rw [e0]; exact Ar5.1) (State.isArrayOf_alike hZ.alike Ar5.2.1) Ar5.2.2 hin5 hat5 (g := (mkF m 23 #[.val (.ref a)] [(.int (1 : Int32)), (.ref a)])) rfl rfl (hb hby d4_23)) ?_
  show own_G p e below s _ _ _ (s₁.setTop (mkF m 24 #[.val (.ref a)] [(.int r1)]))
  refine own_go (fun _ kk_ => XS.aloadN X0.here hx rfl (hb hby d4_24) rfl rfl kk_) ?_
  show own_G p e below s _ _ _ (s₁.setTop (mkF m 25 #[.val (.ref a)] [(.ref a), (.int r1)]))
  refine own_go (fun _ kk_ => XS.iconst X0.here hx rfl (hb hby d4_25) kk_) ?_
  show own_G p e below s _ _ _ (s₁.setTop (mkF m 26 #[.val (.ref a)] [(.int (2 : Int32)), (.ref a), (.int r1)]))
  have Vc6 := V_a
  obtain ⟨cl6, Ar6, q6, S6, M6, H6, G6⟩ := Vc6
  have hin6 := inb_of (j := (2 : Int32)) S6 ⟨(by decide), (by decide)⟩
  have hat6 := H6.at hin6 (v := (.int r2)) rfl
  refine own_go (X0.iaload hx (j := (2 : Int32)) (v := (.int r2)) (by rw [e0]; exact Ar6.1) (State.isArrayOf_alike hZ.alike Ar6.2.1) Ar6.2.2 hin6 hat6 (g := (mkF m 26 #[.val (.ref a)] [(.int (2 : Int32)), (.ref a), (.int r1)])) rfl rfl (hb hby d4_26)) ?_
  show own_G p e below s _ _ _ (s₁.setTop (mkF m 27 #[.val (.ref a)] [(.int r2), (.int r1)]))
  refine own_ic_geN X0 hx (pc := 27) (hb hby d4_27) hq_1 ?_
  show own_G p e below s _ _ _ (s₁.setTop (mkF m 30 #[.val (.ref a)] []))
  refine own_go (fun _ kk_ => XS.aloadN X0.here hx rfl (hb hby d4_30) rfl rfl kk_) ?_
  show own_G p e below s _ _ _ (s₁.setTop (mkF m 31 #[.val (.ref a)] [(.ref a)]))
  have Vc7 := V_a
  obtain ⟨cl7, Ar7, q7, S7, M7, H7, G7⟩ := Vc7
  refine own_go (X0.arraylength hx (cell := cl7) (by rw [e0]; exact Ar7.1) (State.isArrayOf_alike hZ.alike Ar7.2.1) (g := (mkF m 31 #[.val (.ref a)] [(.ref a)])) rfl (rest := []) rfl (hb hby d4_31)) ?_
  rw [len_of S7 M7]
  show own_G p e below s _ _ _ (s₁.setTop (mkF m 32 #[.val (.ref a)] [(.int (4 : Int32))]))
  refine own_go (fun _ kk_ => XS.iconst X0.here hx rfl (hb hby d4_32) kk_) ?_
  show own_G p e below s _ _ _ (s₁.setTop (mkF m 33 #[.val (.ref a)] [(.int (4 : Int32)), (.int (4 : Int32))]))
  refine own_ic_ltN X0 hx (pc := 33) (hb hby d4_33) (by decide) ?_
  show own_G p e below s _ _ _ (s₁.setTop (mkF m 36 #[.val (.ref a)] []))
  refine own_go (fun _ kk_ => XS.aloadN X0.here hx rfl (hb hby d4_36) rfl rfl kk_) ?_
  show own_G p e below s _ _ _ (s₁.setTop (mkF m 37 #[.val (.ref a)] [(.ref a)]))
  refine own_go (fun _ kk_ => XS.iconst X0.here hx rfl (hb hby d4_37) kk_) ?_
  show own_G p e below s _ _ _ (s₁.setTop (mkF m 38 #[.val (.ref a)] [(.int (2 : Int32)), (.ref a)]))
  have Vc8 := V_a
  obtain ⟨cl8, Ar8, q8, S8, M8, H8, G8⟩ := Vc8
  have hin8 := inb_of (j := (2 : Int32)) S8 ⟨(by decide), (by decide)⟩
  have hat8 := H8.at hin8 (v := (.int r2)) rfl
  refine own_go (X0.iaload hx (j := (2 : Int32)) (v := (.int r2)) (by rw [e0]; exact Ar8.1) (State.isArrayOf_alike hZ.alike Ar8.2.1) Ar8.2.2 hin8 hat8 (g := (mkF m 38 #[.val (.ref a)] [(.int (2 : Int32)), (.ref a)])) rfl rfl (hb hby d4_38)) ?_
  show own_G p e below s _ _ _ (s₁.setTop (mkF m 39 #[.val (.ref a)] [(.int r2)]))
  refine own_go (fun _ kk_ => XS.aloadN X0.here hx rfl (hb hby d4_39) rfl rfl kk_) ?_
  show own_G p e below s _ _ _ (s₁.setTop (mkF m 40 #[.val (.ref a)] [(.ref a), (.int r2)]))
  refine own_go (fun _ kk_ => XS.iconst X0.here hx rfl (hb hby d4_40) kk_) ?_
  show own_G p e below s _ _ _ (s₁.setTop (mkF m 41 #[.val (.ref a)] [(.int (3 : Int32)), (.ref a), (.int r2)]))
  have Vc9 := V_a
  obtain ⟨cl9, Ar9, q9, S9, M9, H9, G9⟩ := Vc9
  have hin9 := inb_of (j := (3 : Int32)) S9 ⟨(by decide), (by decide)⟩
  have hat9 := H9.at hin9 (v := (.int r3)) rfl
  refine own_go (X0.iaload hx (j := (3 : Int32)) (v := (.int r3)) (by rw [e0]; exact Ar9.1) (State.isArrayOf_alike hZ.alike Ar9.2.1) Ar9.2.2 hin9 hat9 (g := (mkF m 41 #[.val (.ref a)] [(.int (3 : Int32)), (.ref a), (.int r2)])) rfl rfl (hb hby d4_41)) ?_
  show own_G p e below s _ _ _ (s₁.setTop (mkF m 42 #[.val (.ref a)] [(.int r3), (.int r2)]))
  refine own_ic_geN X0 hx (pc := 42) (hb hby d4_42) hq_2 ?_
  show own_G p e below s _ _ _ (s₁.setTop (mkF m 45 #[.val (.ref a)] []))
  refine own_go (fun _ kk_ => XS.iconst X0.here hx rfl (hb hby d4_45) kk_) ?_
  show own_G p e below s _ _ _ (s₁.setTop (mkF m 46 #[.val (.ref a)] [(.int (1 : Int32))]))
  refine own_go (fun _ kk_ => XS.goto X0.here hx rfl (pc0 := 46) (pc' := 50) rfl (hb hby d4_46) (by decide) (by decide) kk_) ?_
  show own_G p e below s _ _ _ (s₁.setTop (mkF m 50 #[.val (.ref a)] [(.int (1 : Int32))]))
  exact own_retN (t := .boolean) (ht := by simp) X0 hx Bd.returns (BodyLoose.notSynchronized Bd) (hb hby d4_50) e0 ⟨rfl, N0, rfl⟩ (by decide) (by decide)
set_option maxRecDepth 65536 in
set_option maxHeartbeats 40000000 in
theorem rmC (l : Launch) (Z : State) (a0 : Array Value) (hw : ∀ d ∈ tables_1, d.before a0 Z = true) (ws : List Jvm.Cond) (a : Addr) (ka : ClassId) (lr : List Int32) (h0 : Heap) (n0 : Nat) (Z0 : n0 ≤ h0.size) (hl : lr.length ≤ 4) (sr : lr.Pairwise (· < ·)) (V_a : Arv Z h0 a ka .int (Int32.ofNat lr.length) (lr.map Value.int) (.int (0 : Int32))) :
    MetFree l (⟨"com/example/petri_net_analyzer/petrinetanalyzer/SparseVectorUnionPinLaw", "increasing", "([I)Z"⟩ : MethodName) (head1 (Jvm.Cond.code (⟨"com/example/petri_net_analyzer/petrinetanalyzer/SparseVectorUnionPinLaw", "increasing", "([I)Z"⟩ : MethodName) method_5_code 1 (some .boolean) :: ws) ({ frames := 0, cells := 0, slots := 0, locals := 0 } : Room)) (fun as_ U => as_ = #[(.ref a)] ∧ Z.Warmed39 U.vm ∧ U.heap = h0) (fun _ _ _ _ _ => True) (fun _ U o U' => ∃ v L, o = .returned v ∧ (Q_rmC Z a ka lr h0 n0) v U'.heap L ∧ FrameEnd U o U' L ({ frames := 0, cells := 0, slots := 0, locals := 0 } : Room).cells ({ frames := 0, cells := 0, slots := 0, locals := 0 } : Room).slots) := by
  rcases lr with _ | ⟨r0, _ | ⟨r1, _ | ⟨r2, _ | ⟨r3, _ | ⟨r4, t_⟩⟩⟩⟩⟩
  · exact rmC0 l Z a0 hw ws a ka  h0 n0 Z0 V_a 
  · exact rmC1 l Z a0 hw ws a ka r0 h0 n0 Z0 V_a 
  · exact rmC2 l Z a0 hw ws a ka r0 r1 h0 n0 Z0 V_a (own_pc sr List.mem_cons_self)
  · exact rmC3 l Z a0 hw ws a ka r0 r1 r2 h0 n0 Z0 V_a (own_pc sr List.mem_cons_self) (own_pc (own_pt sr) List.mem_cons_self)
  · exact rmC4 l Z a0 hw ws a ka r0 r1 r2 r3 h0 n0 Z0 V_a (own_pc sr List.mem_cons_self) (own_pc (own_pt sr) List.mem_cons_self) (own_pc (own_pt (own_pt sr)) List.mem_cons_self)
  · exact absurd hl (by simp only [List.length_cons]; omega)
def Q_rmI (Z : State) (a b : Addr) (ka kb : ClassId) (ls lr : List Int32) (h0 : Heap) (n0 : Nat) : Option Value → Heap → List Loc → Prop := fun v h L => v = some (.int 1) ∧ Fr n0 L ∧ h = h0
theorem d5_0 : decode method_6_code 0 = .ok (.aload_n 0, 1) := by decide +kernel
theorem d5_1 : decode method_6_code 1 = .ok (.arraylength, 1) := by decide +kernel
theorem d5_2 : decode method_6_code 2 = .ok (.iconst 1, 1) := by decide +kernel
theorem d5_3 : decode method_6_code 3 = .ok (.if_icmp .lt 13, 3) := by decide +kernel
theorem d5_16 : decode method_6_code 16 = .ok (.aload_n 0, 1) := by decide +kernel
theorem d5_17 : decode method_6_code 17 = .ok (.arraylength, 1) := by decide +kernel
theorem d5_18 : decode method_6_code 18 = .ok (.iconst 2, 1) := by decide +kernel
theorem d5_19 : decode method_6_code 19 = .ok (.if_icmp .lt 13, 3) := by decide +kernel
theorem d5_32 : decode method_6_code 32 = .ok (.iconst 1, 1) := by decide +kernel
theorem d5_33 : decode method_6_code 33 = .ok (.goto 4, 3) := by decide +kernel
theorem d5_37 : decode method_6_code 37 = .ok (.ireturn, 1) := by decide +kernel
theorem ef_rmI0 (m : MethodId) (x0 : Addr) (x1 : Addr) : entryFrame m #[(.ref x0), (.ref x1)] 2 = mkF m 0 #[.val (.ref x0), .val (.ref x1)] [] := by first | (simp [entryFrame, mkF, argsToLocals, Value.category]; done) | rfl
set_option maxRecDepth 65536 in
set_option maxHeartbeats 40000000 in
theorem rmI0 (l : Launch) (Z : State) (a0 : Array Value) (hw : ∀ d ∈ tables_1, d.before a0 Z = true) (ws : List Jvm.Cond) (a b : Addr) (ka kb : ClassId) (lr : List Int32)  (h0 : Heap) (n0 : Nat) (Z0 : n0 ≤ h0.size) (V_a : Arv Z h0 a ka .int (0 : Int32) [] (.int (0 : Int32))) (V_b : Arv Z h0 b kb .int (Int32.ofNat lr.length) (lr.map Value.int) (.int (0 : Int32))) (hl : lr.length ≤ 4)  :
    MetFree l (⟨"com/example/petri_net_analyzer/petrinetanalyzer/SparseVectorUnionPinLaw", "allIn", "([I[I)Z"⟩ : MethodName) (head1 (Jvm.Cond.code (⟨"com/example/petri_net_analyzer/petrinetanalyzer/SparseVectorUnionPinLaw", "allIn", "([I[I)Z"⟩ : MethodName) method_6_code 2 (some .boolean) :: ws) ({ frames := 1, cells := 0, slots := 0, locals := 30 } : Room)) (fun as_ U => as_ = #[(.ref a), (.ref b)] ∧ Z.Warmed39 U.vm ∧ U.heap = h0) (fun _ _ _ _ _ => True) (fun _ U o U' => ∃ v L, o = .returned v ∧ (Q_rmI Z a b ka kb [] lr h0 n0) v U'.heap L ∧ FrameEnd U o U' L ({ frames := 1, cells := 0, slots := 0, locals := 30 } : Room).cells ({ frames := 1, cells := 0, slots := 0, locals := 30 } : Room).slots) := by
  refine MetFree.of_bodySF (plainFor_of_name pn_0) hisR ?_
  intro p e s m args below meth c s₁ Bd hml0 hP hK
  obtain ⟨rfl, hZ, hh⟩ := hP
  have hx := Bd.exec
  have hby := Bd.bytes
  have hml : c.maxLocals = 2 := hml0
  have hown : s.vm.findClass "com/example/petri_net_analyzer/petrinetanalyzer/SparseVectorUnionPinLaw" = some m.cls := findClass_of_methodNamed Bd.named
  have hnm := (name_of_methodNamed Bd.named Bd.method).1
  have X0 : Stand p l e ({ frames := 1, cells := 0, slots := 0, locals := 30 } : Room) s m #[(.ref a), (.ref b)] below meth c s₁ [] 0 0 := Stand.of_body Bd
  have e0 : s₁.heap = h0 := by rw [← hh, Bd.state]; rfl
  have N0 := Fr.nil n0
  show own_G p e below s (Q_rmI Z a b ka kb [] lr h0 n0) ({ frames := 1, cells := 0, slots := 0, locals := 30 } : Room).cells ({ frames := 1, cells := 0, slots := 0, locals := 30 } : Room).slots (s₁.setTop (entryFrame m #[(.ref a), (.ref b)] 2))
  rw [ef_rmI0 m a b]
  show own_G p e below s _ _ _ (s₁.setTop (mkF m 0 #[.val (.ref a), .val (.ref b)] []))
  refine own_go (fun _ kk_ => XS.aloadN X0.here hx rfl (hb hby d5_0) rfl rfl kk_) ?_
  show own_G p e below s _ _ _ (s₁.setTop (mkF m 1 #[.val (.ref a), .val (.ref b)] [(.ref a)]))
  have Vc1 := V_a
  obtain ⟨cl1, Ar1, q1, S1, M1, H1, G1⟩ := Vc1
  refine own_go (X0.arraylength hx (cell := cl1) (by rw [e0]; exact Ar1.1) (State.isArrayOf_alike hZ.alike Ar1.2.1) (g := (mkF m 1 #[.val (.ref a), .val (.ref b)] [(.ref a)])) rfl (rest := []) rfl (hb hby d5_1)) ?_
  rw [len_of S1 M1]
  show own_G p e below s _ _ _ (s₁.setTop (mkF m 2 #[.val (.ref a), .val (.ref b)] [(.int (0 : Int32))]))
  refine own_go (fun _ kk_ => XS.iconst X0.here hx rfl (hb hby d5_2) kk_) ?_
  show own_G p e below s _ _ _ (s₁.setTop (mkF m 3 #[.val (.ref a), .val (.ref b)] [(.int (1 : Int32)), (.int (0 : Int32))]))
  refine own_ic_ltY X0 hx (pc := 3) (pc' := 16) (hb hby d5_3) (by decide) (by decide) (by decide) ?_
  show own_G p e below s _ _ _ (s₁.setTop (mkF m 16 #[.val (.ref a), .val (.ref b)] []))
  refine own_go (fun _ kk_ => XS.aloadN X0.here hx rfl (hb hby d5_16) rfl rfl kk_) ?_
  show own_G p e below s _ _ _ (s₁.setTop (mkF m 17 #[.val (.ref a), .val (.ref b)] [(.ref a)]))
  have Vc2 := V_a
  obtain ⟨cl2, Ar2, q2, S2, M2, H2, G2⟩ := Vc2
  refine own_go (X0.arraylength hx (cell := cl2) (by rw [e0]; exact Ar2.1) (State.isArrayOf_alike hZ.alike Ar2.2.1) (g := (mkF m 17 #[.val (.ref a), .val (.ref b)] [(.ref a)])) rfl (rest := []) rfl (hb hby d5_17)) ?_
  rw [len_of S2 M2]
  show own_G p e below s _ _ _ (s₁.setTop (mkF m 18 #[.val (.ref a), .val (.ref b)] [(.int (0 : Int32))]))
  refine own_go (fun _ kk_ => XS.iconst X0.here hx rfl (hb hby d5_18) kk_) ?_
  show own_G p e below s _ _ _ (s₁.setTop (mkF m 19 #[.val (.ref a), .val (.ref b)] [(.int (2 : Int32)), (.int (0 : Int32))]))
  refine own_ic_ltY X0 hx (pc := 19) (pc' := 32) (hb hby d5_19) (by decide) (by decide) (by decide) ?_
  show own_G p e below s _ _ _ (s₁.setTop (mkF m 32 #[.val (.ref a), .val (.ref b)] []))
  refine own_go (fun _ kk_ => XS.iconst X0.here hx rfl (hb hby d5_32) kk_) ?_
  show own_G p e below s _ _ _ (s₁.setTop (mkF m 33 #[.val (.ref a), .val (.ref b)] [(.int (1 : Int32))]))
  refine own_go (fun _ kk_ => XS.goto X0.here hx rfl (pc0 := 33) (pc' := 37) rfl (hb hby d5_33) (by decide) (by decide) kk_) ?_
  show own_G p e below s _ _ _ (s₁.setTop (mkF m 37 #[.val (.ref a), .val (.ref b)] [(.int (1 : Int32))]))
  exact own_retN (t := .boolean) (ht := by simp) X0 hx Bd.returns (BodyLoose.notSynchronized Bd) (hb hby d5_37) e0 ⟨rfl, N0, rfl⟩ (by decide) (by decide)
theorem d5_6 : decode method_6_code 6 = .ok (.aload_n 1, 1) := by decide +kernel
theorem d5_7 : decode method_6_code 7 = .ok (.aload_n 0, 1) := by decide +kernel
theorem d5_8 : decode method_6_code 8 = .ok (.iconst 0, 1) := by decide +kernel
theorem d5_9 : decode method_6_code 9 = .ok (.iaload, 1) := by decide +kernel
theorem d5_10 : decode method_6_code 10 = .ok (.invokestatic 40, 3) := by decide +kernel
theorem d5_13 : decode method_6_code 13 = .ok (.ifCond .eq 23, 3) := by decide +kernel
theorem pd_2 : parseMethodDescriptor "([II)Z" = some ⟨[(.array .int), .int], some .boolean⟩ := by decide +kernel
theorem ef_rmI1 (m : MethodId) (x0 : Addr) (x1 : Addr) : entryFrame m #[(.ref x0), (.ref x1)] 2 = mkF m 0 #[.val (.ref x0), .val (.ref x1)] [] := by first | (simp [entryFrame, mkF, argsToLocals, Value.category]; done) | rfl
set_option maxRecDepth 65536 in
set_option maxHeartbeats 40000000 in
theorem rmI1 (l : Launch) (Z : State) (a0 : Array Value) (hw : ∀ d ∈ tables_1, d.before a0 Z = true) (ws : List Jvm.Cond) (a b : Addr) (ka kb : ClassId) (lr : List Int32) (r0 : Int32) (h0 : Heap) (n0 : Nat) (Z0 : n0 ≤ h0.size) (V_a : Arv Z h0 a ka .int (1 : Int32) [(.int r0)] (.int (0 : Int32))) (V_b : Arv Z h0 b kb .int (Int32.ofNat lr.length) (lr.map Value.int) (.int (0 : Int32))) (hl : lr.length ≤ 4) (m0 : r0 ∈ lr) :
    MetFree l (⟨"com/example/petri_net_analyzer/petrinetanalyzer/SparseVectorUnionPinLaw", "allIn", "([I[I)Z"⟩ : MethodName) (head1 (Jvm.Cond.code (⟨"com/example/petri_net_analyzer/petrinetanalyzer/SparseVectorUnionPinLaw", "allIn", "([I[I)Z"⟩ : MethodName) method_6_code 2 (some .boolean) :: ws) ({ frames := 1, cells := 0, slots := 0, locals := 30 } : Room)) (fun as_ U => as_ = #[(.ref a), (.ref b)] ∧ Z.Warmed39 U.vm ∧ U.heap = h0) (fun _ _ _ _ _ => True) (fun _ U o U' => ∃ v L, o = .returned v ∧ (Q_rmI Z a b ka kb [r0] lr h0 n0) v U'.heap L ∧ FrameEnd U o U' L ({ frames := 1, cells := 0, slots := 0, locals := 30 } : Room).cells ({ frames := 1, cells := 0, slots := 0, locals := 30 } : Room).slots) := by
  refine MetFree.of_bodySF (plainFor_of_name pn_0) hisR ?_
  intro p e s m args below meth c s₁ Bd hml0 hP hK
  obtain ⟨rfl, hZ, hh⟩ := hP
  have hx := Bd.exec
  have hby := Bd.bytes
  have hml : c.maxLocals = 2 := hml0
  have hown : s.vm.findClass "com/example/petri_net_analyzer/petrinetanalyzer/SparseVectorUnionPinLaw" = some m.cls := findClass_of_methodNamed Bd.named
  have hnm := (name_of_methodNamed Bd.named Bd.method).1
  have X0 : Stand p l e ({ frames := 1, cells := 0, slots := 0, locals := 30 } : Room) s m #[(.ref a), (.ref b)] below meth c s₁ [] 0 0 := Stand.of_body Bd
  have e0 : s₁.heap = h0 := by rw [← hh, Bd.state]; rfl
  have N0 := Fr.nil n0
  show own_G p e below s (Q_rmI Z a b ka kb [r0] lr h0 n0) ({ frames := 1, cells := 0, slots := 0, locals := 30 } : Room).cells ({ frames := 1, cells := 0, slots := 0, locals := 30 } : Room).slots (s₁.setTop (entryFrame m #[(.ref a), (.ref b)] 2))
  rw [ef_rmI1 m a b]
  show own_G p e below s _ _ _ (s₁.setTop (mkF m 0 #[.val (.ref a), .val (.ref b)] []))
  refine own_go (fun _ kk_ => XS.aloadN X0.here hx rfl (hb hby d5_0) rfl rfl kk_) ?_
  show own_G p e below s _ _ _ (s₁.setTop (mkF m 1 #[.val (.ref a), .val (.ref b)] [(.ref a)]))
  have Vc1 := V_a
  obtain ⟨cl1, Ar1, q1, S1, M1, H1, G1⟩ := Vc1
  refine own_go (X0.arraylength hx (cell := cl1) (by rw [e0]; exact Ar1.1) (State.isArrayOf_alike hZ.alike Ar1.2.1) (g := (mkF m 1 #[.val (.ref a), .val (.ref b)] [(.ref a)])) rfl (rest := []) rfl (hb hby d5_1)) ?_
  rw [len_of S1 M1]
  show own_G p e below s _ _ _ (s₁.setTop (mkF m 2 #[.val (.ref a), .val (.ref b)] [(.int (1 : Int32))]))
  refine own_go (fun _ kk_ => XS.iconst X0.here hx rfl (hb hby d5_2) kk_) ?_
  show own_G p e below s _ _ _ (s₁.setTop (mkF m 3 #[.val (.ref a), .val (.ref b)] [(.int (1 : Int32)), (.int (1 : Int32))]))
  refine own_ic_ltN X0 hx (pc := 3) (hb hby d5_3) (by decide) ?_
  show own_G p e below s _ _ _ (s₁.setTop (mkF m 6 #[.val (.ref a), .val (.ref b)] []))
  refine own_go (fun _ kk_ => XS.aloadN X0.here hx rfl (hb hby d5_6) rfl rfl kk_) ?_
  show own_G p e below s _ _ _ (s₁.setTop (mkF m 7 #[.val (.ref a), .val (.ref b)] [(.ref b)]))
  refine own_go (fun _ kk_ => XS.aloadN X0.here hx rfl (hb hby d5_7) rfl rfl kk_) ?_
  show own_G p e below s _ _ _ (s₁.setTop (mkF m 8 #[.val (.ref a), .val (.ref b)] [(.ref a), (.ref b)]))
  refine own_go (fun _ kk_ => XS.iconst X0.here hx rfl (hb hby d5_8) kk_) ?_
  show own_G p e below s _ _ _ (s₁.setTop (mkF m 9 #[.val (.ref a), .val (.ref b)] [(.int (0 : Int32)), (.ref a), (.ref b)]))
  have Vc2 := V_a
  obtain ⟨cl2, Ar2, q2, S2, M2, H2, G2⟩ := Vc2
  have hin2 := inb_of (j := (0 : Int32)) S2 ⟨(by decide), (by decide)⟩
  have hat2 := H2.at hin2 (v := (.int r0)) rfl
  refine own_go (X0.iaload hx (j := (0 : Int32)) (v := (.int r0)) (by rw [e0]; exact Ar2.1) (State.isArrayOf_alike hZ.alike Ar2.2.1) Ar2.2.2 hin2 hat2 (g := (mkF m 9 #[.val (.ref a), .val (.ref b)] [(.int (0 : Int32)), (.ref a), (.ref b)])) rfl rfl (hb hby d5_9)) ?_
  show own_G p e below s _ _ _ (s₁.setTop (mkF m 10 #[.val (.ref a), .val (.ref b)] [(.int r0), (.ref b)]))
  obtain ⟨_, _, ⟨T3, L3, k3, n3⟩, -, X3, ⟨Lc3, hQ3, l3, y3, z3⟩, st3⟩ := Jvm.LawKit.callS X0 hx (y := (⟨"com/example/petri_net_analyzer/petrinetanalyzer/SparseVectorUnionPinLaw", "has", "([II)Z"⟩ : MethodName)) hown (mvT hZ (hw _ (List.mem_of_getElem? (i := 36) rfl))) (mvT hZ (hw _ (List.mem_of_getElem? (i := 37) rfl))) (mvT hZ (hw _ (List.mem_of_getElem? (i := 2) rfl))) (mvT hZ (hw _ (List.mem_of_getElem? (i := 38) rfl))) (by decide) (backOf (W := 0) (rmH l Z a0 hw [] b kb lr r0 h0 n0 Z0 hl V_b) hZ (hw _ (List.mem_of_getElem? (i := 38) rfl)) (hw _ (List.mem_of_getElem? (i := 2) rfl)) (by decide) (by decide)) (g := (mkF m 10 #[.val (.ref a), .val (.ref b)] [(.int r0), (.ref b)])) rfl (by rw [hml]; rfl) (argsL := [(.ref b), (.int r0)]) (rest := []) (lenOf pd_2 rfl) rfl (by show 2 * 0 + _ ≤ _; exact Nat.le_of_eq rfl) (hb hby d5_10) (fun _ _ => ⟨rfl, e0, (by decide : 0 + 0 ≤ _), (by decide : 0 + 0 ≤ _)⟩)
  dsimp only [Pt.U, Pt.locs, Pt.cells, Pt.slots] at X3 l3 y3 z3 st3 hQ3
  subst l3 y3 z3
  obtain ⟨rfl, N3q, e3⟩ := hQ3
  have N3 := Fr.app N0 N3q
  refine own_go st3 ?_
  show own_G p e below s _ _ _ (T3.setTop (mkF m 13 #[.val (.ref a), .val (.ref b)] [(.int (own_has lr r0))]))
  rw [own_has_mem lr r0 m0]
  show own_G p e below s _ _ _ (T3.setTop (mkF m 13 #[.val (.ref a), .val (.ref b)] [(.int (1 : Int32))]))
  refine own_if_eqN X3 hx (pc := 13) (hb hby d5_13) (by decide) ?_
  show own_G p e below s _ _ _ (T3.setTop (mkF m 16 #[.val (.ref a), .val (.ref b)] []))
  refine own_go (fun _ kk_ => XS.aloadN X3.here hx rfl (hb hby d5_16) rfl rfl kk_) ?_
  show own_G p e below s _ _ _ (T3.setTop (mkF m 17 #[.val (.ref a), .val (.ref b)] [(.ref a)]))
  have Vc4 := V_a
  obtain ⟨cl4, Ar4, q4, S4, M4, H4, G4⟩ := Vc4
  refine own_go (X3.arraylength hx (cell := cl4) (by rw [e3]; exact Ar4.1) (State.isArrayOf_alike hZ.alike Ar4.2.1) (g := (mkF m 17 #[.val (.ref a), .val (.ref b)] [(.ref a)])) rfl (rest := []) rfl (hb hby d5_17)) ?_
  rw [len_of S4 M4]
  show own_G p e below s _ _ _ (T3.setTop (mkF m 18 #[.val (.ref a), .val (.ref b)] [(.int (1 : Int32))]))
  refine own_go (fun _ kk_ => XS.iconst X3.here hx rfl (hb hby d5_18) kk_) ?_
  show own_G p e below s _ _ _ (T3.setTop (mkF m 19 #[.val (.ref a), .val (.ref b)] [(.int (2 : Int32)), (.int (1 : Int32))]))
  refine own_ic_ltY X3 hx (pc := 19) (pc' := 32) (hb hby d5_19) (by decide) (by decide) (by decide) ?_
  show own_G p e below s _ _ _ (T3.setTop (mkF m 32 #[.val (.ref a), .val (.ref b)] []))
  refine own_go (fun _ kk_ => XS.iconst X3.here hx rfl (hb hby d5_32) kk_) ?_
  show own_G p e below s _ _ _ (T3.setTop (mkF m 33 #[.val (.ref a), .val (.ref b)] [(.int (1 : Int32))]))
  refine own_go (fun _ kk_ => XS.goto X3.here hx rfl (pc0 := 33) (pc' := 37) rfl (hb hby d5_33) (by decide) (by decide) kk_) ?_
  show own_G p e below s _ _ _ (T3.setTop (mkF m 37 #[.val (.ref a), .val (.ref b)] [(.int (1 : Int32))]))
  exact own_retN (t := .boolean) (ht := by simp) X3 hx Bd.returns (BodyLoose.notSynchronized Bd) (hb hby d5_37) e3 ⟨rfl, N3, rfl⟩ (by decide) (by decide)
theorem d5_22 : decode method_6_code 22 = .ok (.aload_n 1, 1) := by decide +kernel
theorem d5_23 : decode method_6_code 23 = .ok (.aload_n 0, 1) := by decide +kernel
theorem d5_24 : decode method_6_code 24 = .ok (.iconst 1, 1) := by decide +kernel
theorem d5_25 : decode method_6_code 25 = .ok (.iaload, 1) := by decide +kernel
theorem d5_26 : decode method_6_code 26 = .ok (.invokestatic 40, 3) := by decide +kernel
theorem d5_29 : decode method_6_code 29 = .ok (.ifCond .eq 7, 3) := by decide +kernel
theorem ef_rmI2 (m : MethodId) (x0 : Addr) (x1 : Addr) : entryFrame m #[(.ref x0), (.ref x1)] 2 = mkF m 0 #[.val (.ref x0), .val (.ref x1)] [] := by first | (simp [entryFrame, mkF, argsToLocals, Value.category]; done) | rfl
set_option maxRecDepth 65536 in
set_option maxHeartbeats 40000000 in
theorem rmI2 (l : Launch) (Z : State) (a0 : Array Value) (hw : ∀ d ∈ tables_1, d.before a0 Z = true) (ws : List Jvm.Cond) (a b : Addr) (ka kb : ClassId) (lr : List Int32) (r0 r1 : Int32) (h0 : Heap) (n0 : Nat) (Z0 : n0 ≤ h0.size) (V_a : Arv Z h0 a ka .int (2 : Int32) [(.int r0), (.int r1)] (.int (0 : Int32))) (V_b : Arv Z h0 b kb .int (Int32.ofNat lr.length) (lr.map Value.int) (.int (0 : Int32))) (hl : lr.length ≤ 4) (m0 : r0 ∈ lr) (m1 : r1 ∈ lr) :
    MetFree l (⟨"com/example/petri_net_analyzer/petrinetanalyzer/SparseVectorUnionPinLaw", "allIn", "([I[I)Z"⟩ : MethodName) (head1 (Jvm.Cond.code (⟨"com/example/petri_net_analyzer/petrinetanalyzer/SparseVectorUnionPinLaw", "allIn", "([I[I)Z"⟩ : MethodName) method_6_code 2 (some .boolean) :: ws) ({ frames := 1, cells := 0, slots := 0, locals := 30 } : Room)) (fun as_ U => as_ = #[(.ref a), (.ref b)] ∧ Z.Warmed39 U.vm ∧ U.heap = h0) (fun _ _ _ _ _ => True) (fun _ U o U' => ∃ v L, o = .returned v ∧ (Q_rmI Z a b ka kb [r0, r1] lr h0 n0) v U'.heap L ∧ FrameEnd U o U' L ({ frames := 1, cells := 0, slots := 0, locals := 30 } : Room).cells ({ frames := 1, cells := 0, slots := 0, locals := 30 } : Room).slots) := by
  refine MetFree.of_bodySF (plainFor_of_name pn_0) hisR ?_
  intro p e s m args below meth c s₁ Bd hml0 hP hK
  obtain ⟨rfl, hZ, hh⟩ := hP
  have hx := Bd.exec
  have hby := Bd.bytes
  have hml : c.maxLocals = 2 := hml0
  have hown : s.vm.findClass "com/example/petri_net_analyzer/petrinetanalyzer/SparseVectorUnionPinLaw" = some m.cls := findClass_of_methodNamed Bd.named
  have hnm := (name_of_methodNamed Bd.named Bd.method).1
  have X0 : Stand p l e ({ frames := 1, cells := 0, slots := 0, locals := 30 } : Room) s m #[(.ref a), (.ref b)] below meth c s₁ [] 0 0 := Stand.of_body Bd
  have e0 : s₁.heap = h0 := by rw [← hh, Bd.state]; rfl
  have N0 := Fr.nil n0
  show own_G p e below s (Q_rmI Z a b ka kb [r0, r1] lr h0 n0) ({ frames := 1, cells := 0, slots := 0, locals := 30 } : Room).cells ({ frames := 1, cells := 0, slots := 0, locals := 30 } : Room).slots (s₁.setTop (entryFrame m #[(.ref a), (.ref b)] 2))
  rw [ef_rmI2 m a b]
  show own_G p e below s _ _ _ (s₁.setTop (mkF m 0 #[.val (.ref a), .val (.ref b)] []))
  refine own_go (fun _ kk_ => XS.aloadN X0.here hx rfl (hb hby d5_0) rfl rfl kk_) ?_
  show own_G p e below s _ _ _ (s₁.setTop (mkF m 1 #[.val (.ref a), .val (.ref b)] [(.ref a)]))
  have Vc1 := V_a
  obtain ⟨cl1, Ar1, q1, S1, M1, H1, G1⟩ := Vc1
  refine own_go (X0.arraylength hx (cell := cl1) (by rw [e0]; exact Ar1.1) (State.isArrayOf_alike hZ.alike Ar1.2.1) (g := (mkF m 1 #[.val (.ref a), .val (.ref b)] [(.ref a)])) rfl (rest := []) rfl (hb hby d5_1)) ?_
  rw [len_of S1 M1]
  show own_G p e below s _ _ _ (s₁.setTop (mkF m 2 #[.val (.ref a), .val (.ref b)] [(.int (2 : Int32))]))
  refine own_go (fun _ kk_ => XS.iconst X0.here hx rfl (hb hby d5_2) kk_) ?_
  show own_G p e below s _ _ _ (s₁.setTop (mkF m 3 #[.val (.ref a), .val (.ref b)] [(.int (1 : Int32)), (.int (2 : Int32))]))
  refine own_ic_ltN X0 hx (pc := 3) (hb hby d5_3) (by decide) ?_
  show own_G p e below s _ _ _ (s₁.setTop (mkF m 6 #[.val (.ref a), .val (.ref b)] []))
  refine own_go (fun _ kk_ => XS.aloadN X0.here hx rfl (hb hby d5_6) rfl rfl kk_) ?_
  show own_G p e below s _ _ _ (s₁.setTop (mkF m 7 #[.val (.ref a), .val (.ref b)] [(.ref b)]))
  refine own_go (fun _ kk_ => XS.aloadN X0.here hx rfl (hb hby d5_7) rfl rfl kk_) ?_
  show own_G p e below s _ _ _ (s₁.setTop (mkF m 8 #[.val (.ref a), .val (.ref b)] [(.ref a), (.ref b)]))
  refine own_go (fun _ kk_ => XS.iconst X0.here hx rfl (hb hby d5_8) kk_) ?_
  show own_G p e below s _ _ _ (s₁.setTop (mkF m 9 #[.val (.ref a), .val (.ref b)] [(.int (0 : Int32)), (.ref a), (.ref b)]))
  have Vc2 := V_a
  obtain ⟨cl2, Ar2, q2, S2, M2, H2, G2⟩ := Vc2
  have hin2 := inb_of (j := (0 : Int32)) S2 ⟨(by decide), (by decide)⟩
  have hat2 := H2.at hin2 (v := (.int r0)) rfl
  refine own_go (X0.iaload hx (j := (0 : Int32)) (v := (.int r0)) (by rw [e0]; exact Ar2.1) (State.isArrayOf_alike hZ.alike Ar2.2.1) Ar2.2.2 hin2 hat2 (g := (mkF m 9 #[.val (.ref a), .val (.ref b)] [(.int (0 : Int32)), (.ref a), (.ref b)])) rfl rfl (hb hby d5_9)) ?_
  show own_G p e below s _ _ _ (s₁.setTop (mkF m 10 #[.val (.ref a), .val (.ref b)] [(.int r0), (.ref b)]))
  obtain ⟨_, _, ⟨T3, L3, k3, n3⟩, -, X3, ⟨Lc3, hQ3, l3, y3, z3⟩, st3⟩ := Jvm.LawKit.callS X0 hx (y := (⟨"com/example/petri_net_analyzer/petrinetanalyzer/SparseVectorUnionPinLaw", "has", "([II)Z"⟩ : MethodName)) hown (mvT hZ (hw _ (List.mem_of_getElem? (i := 36) rfl))) (mvT hZ (hw _ (List.mem_of_getElem? (i := 37) rfl))) (mvT hZ (hw _ (List.mem_of_getElem? (i := 2) rfl))) (mvT hZ (hw _ (List.mem_of_getElem? (i := 38) rfl))) (by decide) (backOf (W := 0) (rmH l Z a0 hw [] b kb lr r0 h0 n0 Z0 hl V_b) hZ (hw _ (List.mem_of_getElem? (i := 38) rfl)) (hw _ (List.mem_of_getElem? (i := 2) rfl)) (by decide) (by decide)) (g := (mkF m 10 #[.val (.ref a), .val (.ref b)] [(.int r0), (.ref b)])) rfl (by rw [hml]; rfl) (argsL := [(.ref b), (.int r0)]) (rest := []) (lenOf pd_2 rfl) rfl (by show 2 * 0 + _ ≤ _; exact Nat.le_of_eq rfl) (hb hby d5_10) (fun _ _ => ⟨rfl, e0, (by decide : 0 + 0 ≤ _), (by decide : 0 + 0 ≤ _)⟩)
  dsimp only [Pt.U, Pt.locs, Pt.cells, Pt.slots] at X3 l3 y3 z3 st3 hQ3
  subst l3 y3 z3
  obtain ⟨rfl, N3q, e3⟩ := hQ3
  have N3 := Fr.app N0 N3q
  refine own_go st3 ?_
  show own_G p e below s _ _ _ (T3.setTop (mkF m 13 #[.val (.ref a), .val (.ref b)] [(.int (own_has lr r0))]))
  rw [own_has_mem lr r0 m0]
  show own_G p e below s _ _ _ (T3.setTop (mkF m 13 #[.val (.ref a), .val (.ref b)] [(.int (1 : Int32))]))
  refine own_if_eqN X3 hx (pc := 13) (hb hby d5_13) (by decide) ?_
  show own_G p e below s _ _ _ (T3.setTop (mkF m 16 #[.val (.ref a), .val (.ref b)] []))
  refine own_go (fun _ kk_ => XS.aloadN X3.here hx rfl (hb hby d5_16) rfl rfl kk_) ?_
  show own_G p e below s _ _ _ (T3.setTop (mkF m 17 #[.val (.ref a), .val (.ref b)] [(.ref a)]))
  have Vc4 := V_a
  obtain ⟨cl4, Ar4, q4, S4, M4, H4, G4⟩ := Vc4
  refine own_go (X3.arraylength hx (cell := cl4) (by rw [e3]; exact Ar4.1) (State.isArrayOf_alike hZ.alike Ar4.2.1) (g := (mkF m 17 #[.val (.ref a), .val (.ref b)] [(.ref a)])) rfl (rest := []) rfl (hb hby d5_17)) ?_
  rw [len_of S4 M4]
  show own_G p e below s _ _ _ (T3.setTop (mkF m 18 #[.val (.ref a), .val (.ref b)] [(.int (2 : Int32))]))
  refine own_go (fun _ kk_ => XS.iconst X3.here hx rfl (hb hby d5_18) kk_) ?_
  show own_G p e below s _ _ _ (T3.setTop (mkF m 19 #[.val (.ref a), .val (.ref b)] [(.int (2 : Int32)), (.int (2 : Int32))]))
  refine own_ic_ltN X3 hx (pc := 19) (hb hby d5_19) (by decide) ?_
  show own_G p e below s _ _ _ (T3.setTop (mkF m 22 #[.val (.ref a), .val (.ref b)] []))
  refine own_go (fun _ kk_ => XS.aloadN X3.here hx rfl (hb hby d5_22) rfl rfl kk_) ?_
  show own_G p e below s _ _ _ (T3.setTop (mkF m 23 #[.val (.ref a), .val (.ref b)] [(.ref b)]))
  refine own_go (fun _ kk_ => XS.aloadN X3.here hx rfl (hb hby d5_23) rfl rfl kk_) ?_
  show own_G p e below s _ _ _ (T3.setTop (mkF m 24 #[.val (.ref a), .val (.ref b)] [(.ref a), (.ref b)]))
  refine own_go (fun _ kk_ => XS.iconst X3.here hx rfl (hb hby d5_24) kk_) ?_
  show own_G p e below s _ _ _ (T3.setTop (mkF m 25 #[.val (.ref a), .val (.ref b)] [(.int (1 : Int32)), (.ref a), (.ref b)]))
  have Vc5 := V_a
  obtain ⟨cl5, Ar5, q5, S5, M5, H5, G5⟩ := Vc5
  have hin5 := inb_of (j := (1 : Int32)) S5 ⟨(by decide), (by decide)⟩
  have hat5 := H5.at hin5 (v := (.int r1)) rfl
  refine own_go (X3.iaload hx (j := (1 : Int32)) (v := (.int r1)) (by rw [e3]; exact Ar5.1) (State.isArrayOf_alike hZ.alike Ar5.2.1) Ar5.2.2 hin5 hat5 (g := (mkF m 25 #[.val (.ref a), .val (.ref b)] [(.int (1 : Int32)), (.ref a), (.ref b)])) rfl rfl (hb hby d5_25)) ?_
  show own_G p e below s _ _ _ (T3.setTop (mkF m 26 #[.val (.ref a), .val (.ref b)] [(.int r1), (.ref b)]))
  obtain ⟨_, _, ⟨T6, L6, k6, n6⟩, -, X6, ⟨Lc6, hQ6, l6, y6, z6⟩, st6⟩ := Jvm.LawKit.callS X3 hx (y := (⟨"com/example/petri_net_analyzer/petrinetanalyzer/SparseVectorUnionPinLaw", "has", "([II)Z"⟩ : MethodName)) hown (mvT hZ (hw _ (List.mem_of_getElem? (i := 36) rfl))) (mvT hZ (hw _ (List.mem_of_getElem? (i := 37) rfl))) (mvT hZ (hw _ (List.mem_of_getElem? (i := 2) rfl))) (mvT hZ (hw _ (List.mem_of_getElem? (i := 38) rfl))) (by decide) (backOf (W := 0) (rmH l Z a0 hw [] b kb lr r1 h0 n0 Z0 hl V_b) hZ (hw _ (List.mem_of_getElem? (i := 38) rfl)) (hw _ (List.mem_of_getElem? (i := 2) rfl)) (by decide) (by decide)) (g := (mkF m 26 #[.val (.ref a), .val (.ref b)] [(.int r1), (.ref b)])) rfl (by rw [hml]; rfl) (argsL := [(.ref b), (.int r1)]) (rest := []) (lenOf pd_2 rfl) rfl (by show 2 * 0 + _ ≤ _; exact Nat.le_of_eq rfl) (hb hby d5_26) (fun _ _ => ⟨rfl, e3, (by decide : 0 + 0 ≤ _), (by decide : 0 + 0 ≤ _)⟩)
  dsimp only [Pt.U, Pt.locs, Pt.cells, Pt.slots] at X6 l6 y6 z6 st6 hQ6
  subst l6 y6 z6
  obtain ⟨rfl, N6q, e6⟩ := hQ6
  have N6 := Fr.app N3 N6q
  refine own_go st6 ?_
  show own_G p e below s _ _ _ (T6.setTop (mkF m 29 #[.val (.ref a), .val (.ref b)] [(.int (own_has lr r1))]))
  rw [own_has_mem lr r1 m1]
  show own_G p e below s _ _ _ (T6.setTop (mkF m 29 #[.val (.ref a), .val (.ref b)] [(.int (1 : Int32))]))
  refine own_if_eqN X6 hx (pc := 29) (hb hby d5_29) (by decide) ?_
  show own_G p e below s _ _ _ (T6.setTop (mkF m 32 #[.val (.ref a), .val (.ref b)] []))
  refine own_go (fun _ kk_ => XS.iconst X6.here hx rfl (hb hby d5_32) kk_) ?_
  show own_G p e below s _ _ _ (T6.setTop (mkF m 33 #[.val (.ref a), .val (.ref b)] [(.int (1 : Int32))]))
  refine own_go (fun _ kk_ => XS.goto X6.here hx rfl (pc0 := 33) (pc' := 37) rfl (hb hby d5_33) (by decide) (by decide) kk_) ?_
  show own_G p e below s _ _ _ (T6.setTop (mkF m 37 #[.val (.ref a), .val (.ref b)] [(.int (1 : Int32))]))
  exact own_retN (t := .boolean) (ht := by simp) X6 hx Bd.returns (BodyLoose.notSynchronized Bd) (hb hby d5_37) e6 ⟨rfl, N6, rfl⟩ (by decide) (by decide)
set_option maxRecDepth 65536 in
set_option maxHeartbeats 40000000 in
theorem rmI (l : Launch) (Z : State) (a0 : Array Value) (hw : ∀ d ∈ tables_1, d.before a0 Z = true) (ws : List Jvm.Cond) (a b : Addr) (ka kb : ClassId) (ls lr : List Int32) (h0 : Heap) (n0 : Nat) (Z0 : n0 ≤ h0.size) (hs : ls.length ≤ 2) (V_a : Arv Z h0 a ka .int (Int32.ofNat ls.length) (ls.map Value.int) (.int (0 : Int32))) (V_b : Arv Z h0 b kb .int (Int32.ofNat lr.length) (lr.map Value.int) (.int (0 : Int32))) (hl : lr.length ≤ 4) (hm : ∀ x ∈ ls, x ∈ lr) :
    MetFree l (⟨"com/example/petri_net_analyzer/petrinetanalyzer/SparseVectorUnionPinLaw", "allIn", "([I[I)Z"⟩ : MethodName) (head1 (Jvm.Cond.code (⟨"com/example/petri_net_analyzer/petrinetanalyzer/SparseVectorUnionPinLaw", "allIn", "([I[I)Z"⟩ : MethodName) method_6_code 2 (some .boolean) :: ws) ({ frames := 1, cells := 0, slots := 0, locals := 30 } : Room)) (fun as_ U => as_ = #[(.ref a), (.ref b)] ∧ Z.Warmed39 U.vm ∧ U.heap = h0) (fun _ _ _ _ _ => True) (fun _ U o U' => ∃ v L, o = .returned v ∧ (Q_rmI Z a b ka kb ls lr h0 n0) v U'.heap L ∧ FrameEnd U o U' L ({ frames := 1, cells := 0, slots := 0, locals := 30 } : Room).cells ({ frames := 1, cells := 0, slots := 0, locals := 30 } : Room).slots) := by
  rcases ls with _ | ⟨r0, _ | ⟨r1, _ | ⟨r2, t_⟩⟩⟩
  · exact rmI0 l Z a0 hw ws a b ka kb lr  h0 n0 Z0 V_a V_b hl 
  · exact rmI1 l Z a0 hw ws a b ka kb lr r0 h0 n0 Z0 V_a V_b hl (hm r0 (by simp))
  · exact rmI2 l Z a0 hw ws a b ka kb lr r0 r1 h0 n0 Z0 V_a V_b hl (hm r0 (by simp)) (hm r1 (by simp))
  · exact absurd hs (by simp only [List.length_cons]; omega)
def Q_rmF (Z : State) (a b c' : Addr) (ka kb kc : ClassId) (lr la lb : List Int32) (h0 : Heap) (n0 : Nat) : Option Value → Heap → List Loc → Prop := fun v h L => v = some (.int 1) ∧ Fr n0 L ∧ h = h0
theorem d6_0 : decode method_7_code 0 = .ok (.aload_n 0, 1) := by decide +kernel
theorem d6_1 : decode method_7_code 1 = .ok (.arraylength, 1) := by decide +kernel
theorem d6_2 : decode method_7_code 2 = .ok (.ifCond .le 23, 3) := by decide +kernel
theorem d6_25 : decode method_7_code 25 = .ok (.aload_n 0, 1) := by decide +kernel
theorem d6_26 : decode method_7_code 26 = .ok (.arraylength, 1) := by decide +kernel
theorem d6_27 : decode method_7_code 27 = .ok (.iconst 1, 1) := by decide +kernel
theorem d6_28 : decode method_7_code 28 = .ok (.if_icmp .le 23, 3) := by decide +kernel
theorem d6_51 : decode method_7_code 51 = .ok (.aload_n 0, 1) := by decide +kernel
theorem d6_52 : decode method_7_code 52 = .ok (.arraylength, 1) := by decide +kernel
theorem d6_53 : decode method_7_code 53 = .ok (.iconst 2, 1) := by decide +kernel
theorem d6_54 : decode method_7_code 54 = .ok (.if_icmp .le 23, 3) := by decide +kernel
theorem d6_77 : decode method_7_code 77 = .ok (.aload_n 0, 1) := by decide +kernel
theorem d6_78 : decode method_7_code 78 = .ok (.arraylength, 1) := by decide +kernel
theorem d6_79 : decode method_7_code 79 = .ok (.iconst 3, 1) := by decide +kernel
theorem d6_80 : decode method_7_code 80 = .ok (.if_icmp .le 23, 3) := by decide +kernel
theorem d6_103 : decode method_7_code 103 = .ok (.iconst 1, 1) := by decide +kernel
theorem d6_104 : decode method_7_code 104 = .ok (.goto 4, 3) := by decide +kernel
theorem d6_108 : decode method_7_code 108 = .ok (.ireturn, 1) := by decide +kernel
theorem ef_rmF0 (m : MethodId) (x0 : Addr) (x1 : Addr) (x2 : Addr) : entryFrame m #[(.ref x0), (.ref x1), (.ref x2)] 3 = mkF m 0 #[.val (.ref x0), .val (.ref x1), .val (.ref x2)] [] := by first | (simp [entryFrame, mkF, argsToLocals, Value.category]; done) | rfl
set_option maxRecDepth 65536 in
set_option maxHeartbeats 40000000 in
theorem rmF0 (l : Launch) (Z : State) (a0 : Array Value) (hw : ∀ d ∈ tables_1, d.before a0 Z = true) (ws : List Jvm.Cond) (a b c' : Addr) (ka kb kc : ClassId) (la lb : List Int32)  (h0 : Heap) (n0 : Nat) (Z0 : n0 ≤ h0.size) (V_a : Arv Z h0 a ka .int (0 : Int32) [] (.int (0 : Int32))) (V_b : Arv Z h0 b kb .int (Int32.ofNat la.length) (la.map Value.int) (.int (0 : Int32))) (V_c : Arv Z h0 c' kc .int (Int32.ofNat lb.length) (lb.map Value.int) (.int (0 : Int32))) (hla : la.length ≤ 4) (hlb : lb.length ≤ 4)  :
    MetFree l (⟨"com/example/petri_net_analyzer/petrinetanalyzer/SparseVectorUnionPinLaw", "fromEither", "([I[I[I)Z"⟩ : MethodName) (head1 (Jvm.Cond.code (⟨"com/example/petri_net_analyzer/petrinetanalyzer/SparseVectorUnionPinLaw", "fromEither", "([I[I[I)Z"⟩ : MethodName) method_7_code 3 (some .boolean) :: ws) ({ frames := 1, cells := 0, slots := 0, locals := 30 } : Room)) (fun as_ U => as_ = #[(.ref a), (.ref b), (.ref c')] ∧ Z.Warmed39 U.vm ∧ U.heap = h0) (fun _ _ _ _ _ => True) (fun _ U o U' => ∃ v L, o = .returned v ∧ (Q_rmF Z a b c' ka kb kc [] la lb h0 n0) v U'.heap L ∧ FrameEnd U o U' L ({ frames := 1, cells := 0, slots := 0, locals := 30 } : Room).cells ({ frames := 1, cells := 0, slots := 0, locals := 30 } : Room).slots) := by
  refine MetFree.of_bodySF (plainFor_of_name pn_0) hisR ?_
  intro p e s m args below meth c s₁ Bd hml0 hP hK
  obtain ⟨rfl, hZ, hh⟩ := hP
  have hx := Bd.exec
  have hby := Bd.bytes
  have hml : c.maxLocals = 3 := hml0
  have hown : s.vm.findClass "com/example/petri_net_analyzer/petrinetanalyzer/SparseVectorUnionPinLaw" = some m.cls := findClass_of_methodNamed Bd.named
  have hnm := (name_of_methodNamed Bd.named Bd.method).1
  have X0 : Stand p l e ({ frames := 1, cells := 0, slots := 0, locals := 30 } : Room) s m #[(.ref a), (.ref b), (.ref c')] below meth c s₁ [] 0 0 := Stand.of_body Bd
  have e0 : s₁.heap = h0 := by rw [← hh, Bd.state]; rfl
  have N0 := Fr.nil n0
  show own_G p e below s (Q_rmF Z a b c' ka kb kc [] la lb h0 n0) ({ frames := 1, cells := 0, slots := 0, locals := 30 } : Room).cells ({ frames := 1, cells := 0, slots := 0, locals := 30 } : Room).slots (s₁.setTop (entryFrame m #[(.ref a), (.ref b), (.ref c')] 3))
  rw [ef_rmF0 m a b c']
  show own_G p e below s _ _ _ (s₁.setTop (mkF m 0 #[.val (.ref a), .val (.ref b), .val (.ref c')] []))
  refine own_go (fun _ kk_ => XS.aloadN X0.here hx rfl (hb hby d6_0) rfl rfl kk_) ?_
  show own_G p e below s _ _ _ (s₁.setTop (mkF m 1 #[.val (.ref a), .val (.ref b), .val (.ref c')] [(.ref a)]))
  have Vc1 := V_a
  obtain ⟨cl1, Ar1, q1, S1, M1, H1, G1⟩ := Vc1
  refine own_go (X0.arraylength hx (cell := cl1) (by rw [e0]; exact Ar1.1) (State.isArrayOf_alike hZ.alike Ar1.2.1) (g := (mkF m 1 #[.val (.ref a), .val (.ref b), .val (.ref c')] [(.ref a)])) rfl (rest := []) rfl (hb hby d6_1)) ?_
  rw [len_of S1 M1]
  show own_G p e below s _ _ _ (s₁.setTop (mkF m 2 #[.val (.ref a), .val (.ref b), .val (.ref c')] [(.int (0 : Int32))]))
  refine own_if_leY X0 hx (pc := 2) (pc' := 25) (hb hby d6_2) (by decide) (by decide) (by decide) ?_
  show own_G p e below s _ _ _ (s₁.setTop (mkF m 25 #[.val (.ref a), .val (.ref b), .val (.ref c')] []))
  refine own_go (fun _ kk_ => XS.aloadN X0.here hx rfl (hb hby d6_25) rfl rfl kk_) ?_
  show own_G p e below s _ _ _ (s₁.setTop (mkF m 26 #[.val (.ref a), .val (.ref b), .val (.ref c')] [(.ref a)]))
  have Vc2 := V_a
  obtain ⟨cl2, Ar2, q2, S2, M2, H2, G2⟩ := Vc2
  refine own_go (X0.arraylength hx (cell := cl2) (by rw [e0]; exact Ar2.1) (State.isArrayOf_alike hZ.alike Ar2.2.1) (g := (mkF m 26 #[.val (.ref a), .val (.ref b), .val (.ref c')] [(.ref a)])) rfl (rest := []) rfl (hb hby d6_26)) ?_
  rw [len_of S2 M2]
  show own_G p e below s _ _ _ (s₁.setTop (mkF m 27 #[.val (.ref a), .val (.ref b), .val (.ref c')] [(.int (0 : Int32))]))
  refine own_go (fun _ kk_ => XS.iconst X0.here hx rfl (hb hby d6_27) kk_) ?_
  show own_G p e below s _ _ _ (s₁.setTop (mkF m 28 #[.val (.ref a), .val (.ref b), .val (.ref c')] [(.int (1 : Int32)), (.int (0 : Int32))]))
  refine own_ic_leY X0 hx (pc := 28) (pc' := 51) (hb hby d6_28) (by decide) (by decide) (by decide) ?_
  show own_G p e below s _ _ _ (s₁.setTop (mkF m 51 #[.val (.ref a), .val (.ref b), .val (.ref c')] []))
  refine own_go (fun _ kk_ => XS.aloadN X0.here hx rfl (hb hby d6_51) rfl rfl kk_) ?_
  show own_G p e below s _ _ _ (s₁.setTop (mkF m 52 #[.val (.ref a), .val (.ref b), .val (.ref c')] [(.ref a)]))
  have Vc3 := V_a
  obtain ⟨cl3, Ar3, q3, S3, M3, H3, G3⟩ := Vc3
  refine own_go (X0.arraylength hx (cell := cl3) (by rw [e0]; exact Ar3.1) (State.isArrayOf_alike hZ.alike Ar3.2.1) (g := (mkF m 52 #[.val (.ref a), .val (.ref b), .val (.ref c')] [(.ref a)])) rfl (rest := []) rfl (hb hby d6_52)) ?_
  rw [len_of S3 M3]
  show own_G p e below s _ _ _ (s₁.setTop (mkF m 53 #[.val (.ref a), .val (.ref b), .val (.ref c')] [(.int (0 : Int32))]))
  refine own_go (fun _ kk_ => XS.iconst X0.here hx rfl (hb hby d6_53) kk_) ?_
  show own_G p e below s _ _ _ (s₁.setTop (mkF m 54 #[.val (.ref a), .val (.ref b), .val (.ref c')] [(.int (2 : Int32)), (.int (0 : Int32))]))
  refine own_ic_leY X0 hx (pc := 54) (pc' := 77) (hb hby d6_54) (by decide) (by decide) (by decide) ?_
  show own_G p e below s _ _ _ (s₁.setTop (mkF m 77 #[.val (.ref a), .val (.ref b), .val (.ref c')] []))
  refine own_go (fun _ kk_ => XS.aloadN X0.here hx rfl (hb hby d6_77) rfl rfl kk_) ?_
  show own_G p e below s _ _ _ (s₁.setTop (mkF m 78 #[.val (.ref a), .val (.ref b), .val (.ref c')] [(.ref a)]))
  have Vc4 := V_a
  obtain ⟨cl4, Ar4, q4, S4, M4, H4, G4⟩ := Vc4
  refine own_go (X0.arraylength hx (cell := cl4) (by rw [e0]; exact Ar4.1) (State.isArrayOf_alike hZ.alike Ar4.2.1) (g := (mkF m 78 #[.val (.ref a), .val (.ref b), .val (.ref c')] [(.ref a)])) rfl (rest := []) rfl (hb hby d6_78)) ?_
  rw [len_of S4 M4]
  show own_G p e below s _ _ _ (s₁.setTop (mkF m 79 #[.val (.ref a), .val (.ref b), .val (.ref c')] [(.int (0 : Int32))]))
  refine own_go (fun _ kk_ => XS.iconst X0.here hx rfl (hb hby d6_79) kk_) ?_
  show own_G p e below s _ _ _ (s₁.setTop (mkF m 80 #[.val (.ref a), .val (.ref b), .val (.ref c')] [(.int (3 : Int32)), (.int (0 : Int32))]))
  refine own_ic_leY X0 hx (pc := 80) (pc' := 103) (hb hby d6_80) (by decide) (by decide) (by decide) ?_
  show own_G p e below s _ _ _ (s₁.setTop (mkF m 103 #[.val (.ref a), .val (.ref b), .val (.ref c')] []))
  refine own_go (fun _ kk_ => XS.iconst X0.here hx rfl (hb hby d6_103) kk_) ?_
  show own_G p e below s _ _ _ (s₁.setTop (mkF m 104 #[.val (.ref a), .val (.ref b), .val (.ref c')] [(.int (1 : Int32))]))
  refine own_go (fun _ kk_ => XS.goto X0.here hx rfl (pc0 := 104) (pc' := 108) rfl (hb hby d6_104) (by decide) (by decide) kk_) ?_
  show own_G p e below s _ _ _ (s₁.setTop (mkF m 108 #[.val (.ref a), .val (.ref b), .val (.ref c')] [(.int (1 : Int32))]))
  exact own_retN (t := .boolean) (ht := by simp) X0 hx Bd.returns (BodyLoose.notSynchronized Bd) (hb hby d6_108) e0 ⟨rfl, N0, rfl⟩ (by decide) (by decide)
theorem d6_5 : decode method_7_code 5 = .ok (.aload_n 1, 1) := by decide +kernel
theorem d6_6 : decode method_7_code 6 = .ok (.aload_n 0, 1) := by decide +kernel
theorem d6_7 : decode method_7_code 7 = .ok (.iconst 0, 1) := by decide +kernel
theorem d6_8 : decode method_7_code 8 = .ok (.iaload, 1) := by decide +kernel
theorem d6_9 : decode method_7_code 9 = .ok (.invokestatic 40, 3) := by decide +kernel
theorem d6_12 : decode method_7_code 12 = .ok (.ifCond .ne 13, 3) := by decide +kernel
theorem d6_15 : decode method_7_code 15 = .ok (.aload_n 2, 1) := by decide +kernel
theorem d6_16 : decode method_7_code 16 = .ok (.aload_n 0, 1) := by decide +kernel
theorem d6_17 : decode method_7_code 17 = .ok (.iconst 0, 1) := by decide +kernel
theorem d6_18 : decode method_7_code 18 = .ok (.iaload, 1) := by decide +kernel
theorem d6_19 : decode method_7_code 19 = .ok (.invokestatic 40, 3) := by decide +kernel
theorem d6_22 : decode method_7_code 22 = .ok (.ifCond .eq 85, 3) := by decide +kernel
theorem ef_rmF1 (m : MethodId) (x0 : Addr) (x1 : Addr) (x2 : Addr) : entryFrame m #[(.ref x0), (.ref x1), (.ref x2)] 3 = mkF m 0 #[.val (.ref x0), .val (.ref x1), .val (.ref x2)] [] := by first | (simp [entryFrame, mkF, argsToLocals, Value.category]; done) | rfl
set_option maxRecDepth 65536 in
set_option maxHeartbeats 40000000 in
theorem rmF1 (l : Launch) (Z : State) (a0 : Array Value) (hw : ∀ d ∈ tables_1, d.before a0 Z = true) (ws : List Jvm.Cond) (a b c' : Addr) (ka kb kc : ClassId) (la lb : List Int32) (r0 : Int32) (h0 : Heap) (n0 : Nat) (Z0 : n0 ≤ h0.size) (V_a : Arv Z h0 a ka .int (1 : Int32) [(.int r0)] (.int (0 : Int32))) (V_b : Arv Z h0 b kb .int (Int32.ofNat la.length) (la.map Value.int) (.int (0 : Int32))) (V_c : Arv Z h0 c' kc .int (Int32.ofNat lb.length) (lb.map Value.int) (.int (0 : Int32))) (hla : la.length ≤ 4) (hlb : lb.length ≤ 4) (m0 : r0 ∈ la ∨ r0 ∈ lb) :
    MetFree l (⟨"com/example/petri_net_analyzer/petrinetanalyzer/SparseVectorUnionPinLaw", "fromEither", "([I[I[I)Z"⟩ : MethodName) (head1 (Jvm.Cond.code (⟨"com/example/petri_net_analyzer/petrinetanalyzer/SparseVectorUnionPinLaw", "fromEither", "([I[I[I)Z"⟩ : MethodName) method_7_code 3 (some .boolean) :: ws) ({ frames := 1, cells := 0, slots := 0, locals := 30 } : Room)) (fun as_ U => as_ = #[(.ref a), (.ref b), (.ref c')] ∧ Z.Warmed39 U.vm ∧ U.heap = h0) (fun _ _ _ _ _ => True) (fun _ U o U' => ∃ v L, o = .returned v ∧ (Q_rmF Z a b c' ka kb kc [r0] la lb h0 n0) v U'.heap L ∧ FrameEnd U o U' L ({ frames := 1, cells := 0, slots := 0, locals := 30 } : Room).cells ({ frames := 1, cells := 0, slots := 0, locals := 30 } : Room).slots) := by
  refine MetFree.of_bodySF (plainFor_of_name pn_0) hisR ?_
  intro p e s m args below meth c s₁ Bd hml0 hP hK
  obtain ⟨rfl, hZ, hh⟩ := hP
  have hx := Bd.exec
  have hby := Bd.bytes
  have hml : c.maxLocals = 3 := hml0
  have hown : s.vm.findClass "com/example/petri_net_analyzer/petrinetanalyzer/SparseVectorUnionPinLaw" = some m.cls := findClass_of_methodNamed Bd.named
  have hnm := (name_of_methodNamed Bd.named Bd.method).1
  have X0 : Stand p l e ({ frames := 1, cells := 0, slots := 0, locals := 30 } : Room) s m #[(.ref a), (.ref b), (.ref c')] below meth c s₁ [] 0 0 := Stand.of_body Bd
  have e0 : s₁.heap = h0 := by rw [← hh, Bd.state]; rfl
  have N0 := Fr.nil n0
  show own_G p e below s (Q_rmF Z a b c' ka kb kc [r0] la lb h0 n0) ({ frames := 1, cells := 0, slots := 0, locals := 30 } : Room).cells ({ frames := 1, cells := 0, slots := 0, locals := 30 } : Room).slots (s₁.setTop (entryFrame m #[(.ref a), (.ref b), (.ref c')] 3))
  rw [ef_rmF1 m a b c']
  suffices J1 : ∀ (T1 : State) (lo1 : List Loc), Stand p l e ({ frames := 1, cells := 0, slots := 0, locals := 30 } : Room) s m #[(.ref a), (.ref b), (.ref c')] below meth c T1 lo1 0 0 → Fr n0 lo1 → T1.heap = h0 → own_G p e below s (Q_rmF Z a b c' ka kb kc [r0] la lb h0 n0) ({ frames := 1, cells := 0, slots := 0, locals := 30 } : Room).cells ({ frames := 1, cells := 0, slots := 0, locals := 30 } : Room).slots (T1.setTop (mkF m 25 #[.val (.ref a), .val (.ref b), .val (.ref c')] [])) by
    show own_G p e below s _ _ _ (s₁.setTop (mkF m 0 #[.val (.ref a), .val (.ref b), .val (.ref c')] []))
    refine own_go (fun _ kk_ => XS.aloadN X0.here hx rfl (hb hby d6_0) rfl rfl kk_) ?_
    show own_G p e below s _ _ _ (s₁.setTop (mkF m 1 #[.val (.ref a), .val (.ref b), .val (.ref c')] [(.ref a)]))
    have Vc2 := V_a
    obtain ⟨cl2, Ar2, q2, S2, M2, H2, G2⟩ := Vc2
    refine own_go (X0.arraylength hx (cell := cl2) (by rw [e0]; exact Ar2.1) (State.isArrayOf_alike hZ.alike Ar2.2.1) (g := (mkF m 1 #[.val (.ref a), .val (.ref b), .val (.ref c')] [(.ref a)])) rfl (rest := []) rfl (hb hby d6_1)) ?_
    rw [len_of S2 M2]
    show own_G p e below s _ _ _ (s₁.setTop (mkF m 2 #[.val (.ref a), .val (.ref b), .val (.ref c')] [(.int (1 : Int32))]))
    refine own_if_leN X0 hx (pc := 2) (hb hby d6_2) (by decide) ?_
    show own_G p e below s _ _ _ (s₁.setTop (mkF m 5 #[.val (.ref a), .val (.ref b), .val (.ref c')] []))
    refine own_go (fun _ kk_ => XS.aloadN X0.here hx rfl (hb hby d6_5) rfl rfl kk_) ?_
    show own_G p e below s _ _ _ (s₁.setTop (mkF m 6 #[.val (.ref a), .val (.ref b), .val (.ref c')] [(.ref b)]))
    refine own_go (fun _ kk_ => XS.aloadN X0.here hx rfl (hb hby d6_6) rfl rfl kk_) ?_
    show own_G p e below s _ _ _ (s₁.setTop (mkF m 7 #[.val (.ref a), .val (.ref b), .val (.ref c')] [(.ref a), (.ref b)]))
    refine own_go (fun _ kk_ => XS.iconst X0.here hx rfl (hb hby d6_7) kk_) ?_
    show own_G p e below s _ _ _ (s₁.setTop (mkF m 8 #[.val (.ref a), .val (.ref b), .val (.ref c')] [(.int (0 : Int32)), (.ref a), (.ref b)]))
    have Vc3 := V_a
    obtain ⟨cl3, Ar3, q3, S3, M3, H3, G3⟩ := Vc3
    have hin3 := inb_of (j := (0 : Int32)) S3 ⟨(by decide), (by decide)⟩
    have hat3 := H3.at hin3 (v := (.int r0)) rfl
    refine own_go (X0.iaload hx (j := (0 : Int32)) (v := (.int r0)) (by rw [e0]; exact Ar3.1) (State.isArrayOf_alike hZ.alike Ar3.2.1) Ar3.2.2 hin3 hat3 (g := (mkF m 8 #[.val (.ref a), .val (.ref b), .val (.ref c')] [(.int (0 : Int32)), (.ref a), (.ref b)])) rfl rfl (hb hby d6_8)) ?_
    show own_G p e below s _ _ _ (s₁.setTop (mkF m 9 #[.val (.ref a), .val (.ref b), .val (.ref c')] [(.int r0), (.ref b)]))
    obtain ⟨_, _, ⟨T4, L4, k4, n4⟩, -, X4, ⟨Lc4, hQ4, l4, y4, z4⟩, st4⟩ := Jvm.LawKit.callS X0 hx (y := (⟨"com/example/petri_net_analyzer/petrinetanalyzer/SparseVectorUnionPinLaw", "has", "([II)Z"⟩ : MethodName)) hown (mvT hZ (hw _ (List.mem_of_getElem? (i := 36) rfl))) (mvT hZ (hw _ (List.mem_of_getElem? (i := 37) rfl))) (mvT hZ (hw _ (List.mem_of_getElem? (i := 2) rfl))) (mvT hZ (hw _ (List.mem_of_getElem? (i := 38) rfl))) (by decide) (backOf (W := 0) (rmH l Z a0 hw [] b kb la r0 h0 n0 Z0 hla V_b) hZ (hw _ (List.mem_of_getElem? (i := 38) rfl)) (hw _ (List.mem_of_getElem? (i := 2) rfl)) (by decide) (by decide)) (g := (mkF m 9 #[.val (.ref a), .val (.ref b), .val (.ref c')] [(.int r0), (.ref b)])) rfl (by rw [hml]; rfl) (argsL := [(.ref b), (.int r0)]) (rest := []) (lenOf pd_2 rfl) rfl (by show 2 * 0 + _ ≤ _; exact Nat.le_of_eq rfl) (hb hby d6_9) (fun _ _ => ⟨rfl, e0, (by decide : 0 + 0 ≤ _), (by decide : 0 + 0 ≤ _)⟩)
    dsimp only [Pt.U, Pt.locs, Pt.cells, Pt.slots] at X4 l4 y4 z4 st4 hQ4
    subst l4 y4 z4
    obtain ⟨rfl, N4q, e4⟩ := hQ4
    have N4 := Fr.app N0 N4q
    refine own_go st4 ?_
    show own_G p e below s _ _ _ (T4.setTop (mkF m 12 #[.val (.ref a), .val (.ref b), .val (.ref c')] [(.int (own_has la r0))]))
    rcases own_has_01 la r0 with hh | ⟨hh, hn⟩
    · rw [hh]
      show own_G p e below s _ _ _ (T4.setTop (mkF m 12 #[.val (.ref a), .val (.ref b), .val (.ref c')] [(.int (1 : Int32))]))
      refine own_if_neY X4 hx (pc := 12) (pc' := 25) (hb hby d6_12) (by decide) (by decide) (by decide) ?_
      exact J1 _ _ (X4.more (by decide) (by decide)) N4 e4
    · rw [hh]
      have mm0 := m0.resolve_left hn
      show own_G p e below s _ _ _ (T4.setTop (mkF m 12 #[.val (.ref a), .val (.ref b), .val (.ref c')] [(.int (0 : Int32))]))
      refine own_if_neN X4 hx (pc := 12) (hb hby d6_12) (by decide) ?_
      show own_G p e below s _ _ _ (T4.setTop (mkF m 15 #[.val (.ref a), .val (.ref b), .val (.ref c')] []))
      refine own_go (fun _ kk_ => XS.aloadN X4.here hx rfl (hb hby d6_15) rfl rfl kk_) ?_
      show own_G p e below s _ _ _ (T4.setTop (mkF m 16 #[.val (.ref a), .val (.ref b), .val (.ref c')] [(.ref c')]))
      refine own_go (fun _ kk_ => XS.aloadN X4.here hx rfl (hb hby d6_16) rfl rfl kk_) ?_
      show own_G p e below s _ _ _ (T4.setTop (mkF m 17 #[.val (.ref a), .val (.ref b), .val (.ref c')] [(.ref a), (.ref c')]))
      refine own_go (fun _ kk_ => XS.iconst X4.here hx rfl (hb hby d6_17) kk_) ?_
      show own_G p e below s _ _ _ (T4.setTop (mkF m 18 #[.val (.ref a), .val (.ref b), .val (.ref c')] [(.int (0 : Int32)), (.ref a), (.ref c')]))
      have Vc5 := V_a
      obtain ⟨cl5, Ar5, q5, S5, M5, H5, G5⟩ := Vc5
      have hin5 := inb_of (j := (0 : Int32)) S5 ⟨(by decide), (by decide)⟩
      have hat5 := H5.at hin5 (v := (.int r0)) rfl
      refine own_go (X4.iaload hx (j := (0 : Int32)) (v := (.int r0)) (by rw [e4]; exact Ar5.1) (State.isArrayOf_alike hZ.alike Ar5.2.1) Ar5.2.2 hin5 hat5 (g := (mkF m 18 #[.val (.ref a), .val (.ref b), .val (.ref c')] [(.int (0 : Int32)), (.ref a), (.ref c')])) rfl rfl (hb hby d6_18)) ?_
      show own_G p e below s _ _ _ (T4.setTop (mkF m 19 #[.val (.ref a), .val (.ref b), .val (.ref c')] [(.int r0), (.ref c')]))
      obtain ⟨_, _, ⟨T6, L6, k6, n6⟩, -, X6, ⟨Lc6, hQ6, l6, y6, z6⟩, st6⟩ := Jvm.LawKit.callS X4 hx (y := (⟨"com/example/petri_net_analyzer/petrinetanalyzer/SparseVectorUnionPinLaw", "has", "([II)Z"⟩ : MethodName)) hown (mvT hZ (hw _ (List.mem_of_getElem? (i := 36) rfl))) (mvT hZ (hw _ (List.mem_of_getElem? (i := 37) rfl))) (mvT hZ (hw _ (List.mem_of_getElem? (i := 2) rfl))) (mvT hZ (hw _ (List.mem_of_getElem? (i := 38) rfl))) (by decide) (backOf (W := 0) (rmH l Z a0 hw [] c' kc lb r0 h0 n0 Z0 hlb V_c) hZ (hw _ (List.mem_of_getElem? (i := 38) rfl)) (hw _ (List.mem_of_getElem? (i := 2) rfl)) (by decide) (by decide)) (g := (mkF m 19 #[.val (.ref a), .val (.ref b), .val (.ref c')] [(.int r0), (.ref c')])) rfl (by rw [hml]; rfl) (argsL := [(.ref c'), (.int r0)]) (rest := []) (lenOf pd_2 rfl) rfl (by show 2 * 0 + _ ≤ _; exact Nat.le_of_eq rfl) (hb hby d6_19) (fun _ _ => ⟨rfl, e4, (by decide : 0 + 0 ≤ _), (by decide : 0 + 0 ≤ _)⟩)
      dsimp only [Pt.U, Pt.locs, Pt.cells, Pt.slots] at X6 l6 y6 z6 st6 hQ6
      subst l6 y6 z6
      obtain ⟨rfl, N6q, e6⟩ := hQ6
      have N6 := Fr.app N4 N6q
      refine own_go st6 ?_
      show own_G p e below s _ _ _ (T6.setTop (mkF m 22 #[.val (.ref a), .val (.ref b), .val (.ref c')] [(.int (own_has lb r0))]))
      rw [own_has_mem lb r0 mm0]
      show own_G p e below s _ _ _ (T6.setTop (mkF m 22 #[.val (.ref a), .val (.ref b), .val (.ref c')] [(.int (1 : Int32))]))
      refine own_if_eqN X6 hx (pc := 22) (hb hby d6_22) (by decide) ?_
      exact J1 _ _ (X6.more (by decide) (by decide)) N6 e6
  intro T1 lo1 X1 N1 e1
  show own_G p e below s _ _ _ (T1.setTop (mkF m 25 #[.val (.ref a), .val (.ref b), .val (.ref c')] []))
  refine own_go (fun _ kk_ => XS.aloadN X1.here hx rfl (hb hby d6_25) rfl rfl kk_) ?_
  show own_G p e below s _ _ _ (T1.setTop (mkF m 26 #[.val (.ref a), .val (.ref b), .val (.ref c')] [(.ref a)]))
  have Vc7 := V_a
  obtain ⟨cl7, Ar7, q7, S7, M7, H7, G7⟩ := Vc7
  refine own_go (X1.arraylength hx (cell := cl7) (by rw [e1]; exact Ar7.1) (State.isArrayOf_alike hZ.alike Ar7.2.1) (g := (mkF m 26 #[.val (.ref a), .val (.ref b), .val (.ref c')] [(.ref a)])) rfl (rest := []) rfl (hb hby d6_26)) ?_
  rw [len_of S7 M7]
  show own_G p e below s _ _ _ (T1.setTop (mkF m 27 #[.val (.ref a), .val (.ref b), .val (.ref c')] [(.int (1 : Int32))]))
  refine own_go (fun _ kk_ => XS.iconst X1.here hx rfl (hb hby d6_27) kk_) ?_
  show own_G p e below s _ _ _ (T1.setTop (mkF m 28 #[.val (.ref a), .val (.ref b), .val (.ref c')] [(.int (1 : Int32)), (.int (1 : Int32))]))
  refine own_ic_leY X1 hx (pc := 28) (pc' := 51) (hb hby d6_28) (by decide) (by decide) (by decide) ?_
  show own_G p e below s _ _ _ (T1.setTop (mkF m 51 #[.val (.ref a), .val (.ref b), .val (.ref c')] []))
  refine own_go (fun _ kk_ => XS.aloadN X1.here hx rfl (hb hby d6_51) rfl rfl kk_) ?_
  show own_G p e below s _ _ _ (T1.setTop (mkF m 52 #[.val (.ref a), .val (.ref b), .val (.ref c')] [(.ref a)]))
  have Vc8 := V_a
  obtain ⟨cl8, Ar8, q8, S8, M8, H8, G8⟩ := Vc8
  refine own_go (X1.arraylength hx (cell := cl8) (by rw [e1]; exact Ar8.1) (State.isArrayOf_alike hZ.alike Ar8.2.1) (g := (mkF m 52 #[.val (.ref a), .val (.ref b), .val (.ref c')] [(.ref a)])) rfl (rest := []) rfl (hb hby d6_52)) ?_
  rw [len_of S8 M8]
  show own_G p e below s _ _ _ (T1.setTop (mkF m 53 #[.val (.ref a), .val (.ref b), .val (.ref c')] [(.int (1 : Int32))]))
  refine own_go (fun _ kk_ => XS.iconst X1.here hx rfl (hb hby d6_53) kk_) ?_
  show own_G p e below s _ _ _ (T1.setTop (mkF m 54 #[.val (.ref a), .val (.ref b), .val (.ref c')] [(.int (2 : Int32)), (.int (1 : Int32))]))
  refine own_ic_leY X1 hx (pc := 54) (pc' := 77) (hb hby d6_54) (by decide) (by decide) (by decide) ?_
  show own_G p e below s _ _ _ (T1.setTop (mkF m 77 #[.val (.ref a), .val (.ref b), .val (.ref c')] []))
  refine own_go (fun _ kk_ => XS.aloadN X1.here hx rfl (hb hby d6_77) rfl rfl kk_) ?_
  show own_G p e below s _ _ _ (T1.setTop (mkF m 78 #[.val (.ref a), .val (.ref b), .val (.ref c')] [(.ref a)]))
  have Vc9 := V_a
  obtain ⟨cl9, Ar9, q9, S9, M9, H9, G9⟩ := Vc9
  refine own_go (X1.arraylength hx (cell := cl9) (by rw [e1]; exact Ar9.1) (State.isArrayOf_alike hZ.alike Ar9.2.1) (g := (mkF m 78 #[.val (.ref a), .val (.ref b), .val (.ref c')] [(.ref a)])) rfl (rest := []) rfl (hb hby d6_78)) ?_
  rw [len_of S9 M9]
  show own_G p e below s _ _ _ (T1.setTop (mkF m 79 #[.val (.ref a), .val (.ref b), .val (.ref c')] [(.int (1 : Int32))]))
  refine own_go (fun _ kk_ => XS.iconst X1.here hx rfl (hb hby d6_79) kk_) ?_
  show own_G p e below s _ _ _ (T1.setTop (mkF m 80 #[.val (.ref a), .val (.ref b), .val (.ref c')] [(.int (3 : Int32)), (.int (1 : Int32))]))
  refine own_ic_leY X1 hx (pc := 80) (pc' := 103) (hb hby d6_80) (by decide) (by decide) (by decide) ?_
  show own_G p e below s _ _ _ (T1.setTop (mkF m 103 #[.val (.ref a), .val (.ref b), .val (.ref c')] []))
  refine own_go (fun _ kk_ => XS.iconst X1.here hx rfl (hb hby d6_103) kk_) ?_
  show own_G p e below s _ _ _ (T1.setTop (mkF m 104 #[.val (.ref a), .val (.ref b), .val (.ref c')] [(.int (1 : Int32))]))
  refine own_go (fun _ kk_ => XS.goto X1.here hx rfl (pc0 := 104) (pc' := 108) rfl (hb hby d6_104) (by decide) (by decide) kk_) ?_
  show own_G p e below s _ _ _ (T1.setTop (mkF m 108 #[.val (.ref a), .val (.ref b), .val (.ref c')] [(.int (1 : Int32))]))
  exact own_retN (t := .boolean) (ht := by simp) X1 hx Bd.returns (BodyLoose.notSynchronized Bd) (hb hby d6_108) e1 ⟨rfl, N1, rfl⟩ (by decide) (by decide)
theorem d6_31 : decode method_7_code 31 = .ok (.aload_n 1, 1) := by decide +kernel
theorem d6_32 : decode method_7_code 32 = .ok (.aload_n 0, 1) := by decide +kernel
theorem d6_33 : decode method_7_code 33 = .ok (.iconst 1, 1) := by decide +kernel
theorem d6_34 : decode method_7_code 34 = .ok (.iaload, 1) := by decide +kernel
theorem d6_35 : decode method_7_code 35 = .ok (.invokestatic 40, 3) := by decide +kernel
theorem d6_38 : decode method_7_code 38 = .ok (.ifCond .ne 13, 3) := by decide +kernel
theorem d6_41 : decode method_7_code 41 = .ok (.aload_n 2, 1) := by decide +kernel
theorem d6_42 : decode method_7_code 42 = .ok (.aload_n 0, 1) := by decide +kernel
theorem d6_43 : decode method_7_code 43 = .ok (.iconst 1, 1) := by decide +kernel
theorem d6_44 : decode method_7_code 44 = .ok (.iaload, 1) := by decide +kernel
theorem d6_45 : decode method_7_code 45 = .ok (.invokestatic 40, 3) := by decide +kernel
theorem d6_48 : decode method_7_code 48 = .ok (.ifCond .eq 59, 3) := by decide +kernel
theorem ef_rmF2 (m : MethodId) (x0 : Addr) (x1 : Addr) (x2 : Addr) : entryFrame m #[(.ref x0), (.ref x1), (.ref x2)] 3 = mkF m 0 #[.val (.ref x0), .val (.ref x1), .val (.ref x2)] [] := by first | (simp [entryFrame, mkF, argsToLocals, Value.category]; done) | rfl
set_option maxRecDepth 65536 in
set_option maxHeartbeats 40000000 in
theorem rmF2 (l : Launch) (Z : State) (a0 : Array Value) (hw : ∀ d ∈ tables_1, d.before a0 Z = true) (ws : List Jvm.Cond) (a b c' : Addr) (ka kb kc : ClassId) (la lb : List Int32) (r0 r1 : Int32) (h0 : Heap) (n0 : Nat) (Z0 : n0 ≤ h0.size) (V_a : Arv Z h0 a ka .int (2 : Int32) [(.int r0), (.int r1)] (.int (0 : Int32))) (V_b : Arv Z h0 b kb .int (Int32.ofNat la.length) (la.map Value.int) (.int (0 : Int32))) (V_c : Arv Z h0 c' kc .int (Int32.ofNat lb.length) (lb.map Value.int) (.int (0 : Int32))) (hla : la.length ≤ 4) (hlb : lb.length ≤ 4) (m0 : r0 ∈ la ∨ r0 ∈ lb) (m1 : r1 ∈ la ∨ r1 ∈ lb) :
    MetFree l (⟨"com/example/petri_net_analyzer/petrinetanalyzer/SparseVectorUnionPinLaw", "fromEither", "([I[I[I)Z"⟩ : MethodName) (head1 (Jvm.Cond.code (⟨"com/example/petri_net_analyzer/petrinetanalyzer/SparseVectorUnionPinLaw", "fromEither", "([I[I[I)Z"⟩ : MethodName) method_7_code 3 (some .boolean) :: ws) ({ frames := 1, cells := 0, slots := 0, locals := 30 } : Room)) (fun as_ U => as_ = #[(.ref a), (.ref b), (.ref c')] ∧ Z.Warmed39 U.vm ∧ U.heap = h0) (fun _ _ _ _ _ => True) (fun _ U o U' => ∃ v L, o = .returned v ∧ (Q_rmF Z a b c' ka kb kc [r0, r1] la lb h0 n0) v U'.heap L ∧ FrameEnd U o U' L ({ frames := 1, cells := 0, slots := 0, locals := 30 } : Room).cells ({ frames := 1, cells := 0, slots := 0, locals := 30 } : Room).slots) := by
  refine MetFree.of_bodySF (plainFor_of_name pn_0) hisR ?_
  intro p e s m args below meth c s₁ Bd hml0 hP hK
  obtain ⟨rfl, hZ, hh⟩ := hP
  have hx := Bd.exec
  have hby := Bd.bytes
  have hml : c.maxLocals = 3 := hml0
  have hown : s.vm.findClass "com/example/petri_net_analyzer/petrinetanalyzer/SparseVectorUnionPinLaw" = some m.cls := findClass_of_methodNamed Bd.named
  have hnm := (name_of_methodNamed Bd.named Bd.method).1
  have X0 : Stand p l e ({ frames := 1, cells := 0, slots := 0, locals := 30 } : Room) s m #[(.ref a), (.ref b), (.ref c')] below meth c s₁ [] 0 0 := Stand.of_body Bd
  have e0 : s₁.heap = h0 := by rw [← hh, Bd.state]; rfl
  have N0 := Fr.nil n0
  show own_G p e below s (Q_rmF Z a b c' ka kb kc [r0, r1] la lb h0 n0) ({ frames := 1, cells := 0, slots := 0, locals := 30 } : Room).cells ({ frames := 1, cells := 0, slots := 0, locals := 30 } : Room).slots (s₁.setTop (entryFrame m #[(.ref a), (.ref b), (.ref c')] 3))
  rw [ef_rmF2 m a b c']
  suffices J1 : ∀ (T1 : State) (lo1 : List Loc), Stand p l e ({ frames := 1, cells := 0, slots := 0, locals := 30 } : Room) s m #[(.ref a), (.ref b), (.ref c')] below meth c T1 lo1 0 0 → Fr n0 lo1 → T1.heap = h0 → own_G p e below s (Q_rmF Z a b c' ka kb kc [r0, r1] la lb h0 n0) ({ frames := 1, cells := 0, slots := 0, locals := 30 } : Room).cells ({ frames := 1, cells := 0, slots := 0, locals := 30 } : Room).slots (T1.setTop (mkF m 25 #[.val (.ref a), .val (.ref b), .val (.ref c')] [])) by
    show own_G p e below s _ _ _ (s₁.setTop (mkF m 0 #[.val (.ref a), .val (.ref b), .val (.ref c')] []))
    refine own_go (fun _ kk_ => XS.aloadN X0.here hx rfl (hb hby d6_0) rfl rfl kk_) ?_
    show own_G p e below s _ _ _ (s₁.setTop (mkF m 1 #[.val (.ref a), .val (.ref b), .val (.ref c')] [(.ref a)]))
    have Vc2 := V_a
    obtain ⟨cl2, Ar2, q2, S2, M2, H2, G2⟩ := Vc2
    refine own_go (X0.arraylength hx (cell := cl2) (by rw [e0]; exact Ar2.1) (State.isArrayOf_alike hZ.alike Ar2.2.1) (g := (mkF m 1 #[.val (.ref a), .val (.ref b), .val (.ref c')] [(.ref a)])) rfl (rest := []) rfl (hb hby d6_1)) ?_
    rw [len_of S2 M2]
    show own_G p e below s _ _ _ (s₁.setTop (mkF m 2 #[.val (.ref a), .val (.ref b), .val (.ref c')] [(.int (2 : Int32))]))
    refine own_if_leN X0 hx (pc := 2) (hb hby d6_2) (by decide) ?_
    show own_G p e below s _ _ _ (s₁.setTop (mkF m 5 #[.val (.ref a), .val (.ref b), .val (.ref c')] []))
    refine own_go (fun _ kk_ => XS.aloadN X0.here hx rfl (hb hby d6_5) rfl rfl kk_) ?_
    show own_G p e below s _ _ _ (s₁.setTop (mkF m 6 #[.val (.ref a), .val (.ref b), .val (.ref c')] [(.ref b)]))
    refine own_go (fun _ kk_ => XS.aloadN X0.here hx rfl (hb hby d6_6) rfl rfl kk_) ?_
    show own_G p e below s _ _ _ (s₁.setTop (mkF m 7 #[.val (.ref a), .val (.ref b), .val (.ref c')] [(.ref a), (.ref b)]))
    refine own_go (fun _ kk_ => XS.iconst X0.here hx rfl (hb hby d6_7) kk_) ?_
    show own_G p e below s _ _ _ (s₁.setTop (mkF m 8 #[.val (.ref a), .val (.ref b), .val (.ref c')] [(.int (0 : Int32)), (.ref a), (.ref b)]))
    have Vc3 := V_a
    obtain ⟨cl3, Ar3, q3, S3, M3, H3, G3⟩ := Vc3
    have hin3 := inb_of (j := (0 : Int32)) S3 ⟨(by decide), (by decide)⟩
    have hat3 := H3.at hin3 (v := (.int r0)) rfl
    refine own_go (X0.iaload hx (j := (0 : Int32)) (v := (.int r0)) (by rw [e0]; exact Ar3.1) (State.isArrayOf_alike hZ.alike Ar3.2.1) Ar3.2.2 hin3 hat3 (g := (mkF m 8 #[.val (.ref a), .val (.ref b), .val (.ref c')] [(.int (0 : Int32)), (.ref a), (.ref b)])) rfl rfl (hb hby d6_8)) ?_
    show own_G p e below s _ _ _ (s₁.setTop (mkF m 9 #[.val (.ref a), .val (.ref b), .val (.ref c')] [(.int r0), (.ref b)]))
    obtain ⟨_, _, ⟨T4, L4, k4, n4⟩, -, X4, ⟨Lc4, hQ4, l4, y4, z4⟩, st4⟩ := Jvm.LawKit.callS X0 hx (y := (⟨"com/example/petri_net_analyzer/petrinetanalyzer/SparseVectorUnionPinLaw", "has", "([II)Z"⟩ : MethodName)) hown (mvT hZ (hw _ (List.mem_of_getElem? (i := 36) rfl))) (mvT hZ (hw _ (List.mem_of_getElem? (i := 37) rfl))) (mvT hZ (hw _ (List.mem_of_getElem? (i := 2) rfl))) (mvT hZ (hw _ (List.mem_of_getElem? (i := 38) rfl))) (by decide) (backOf (W := 0) (rmH l Z a0 hw [] b kb la r0 h0 n0 Z0 hla V_b) hZ (hw _ (List.mem_of_getElem? (i := 38) rfl)) (hw _ (List.mem_of_getElem? (i := 2) rfl)) (by decide) (by decide)) (g := (mkF m 9 #[.val (.ref a), .val (.ref b), .val (.ref c')] [(.int r0), (.ref b)])) rfl (by rw [hml]; rfl) (argsL := [(.ref b), (.int r0)]) (rest := []) (lenOf pd_2 rfl) rfl (by show 2 * 0 + _ ≤ _; exact Nat.le_of_eq rfl) (hb hby d6_9) (fun _ _ => ⟨rfl, e0, (by decide : 0 + 0 ≤ _), (by decide : 0 + 0 ≤ _)⟩)
    dsimp only [Pt.U, Pt.locs, Pt.cells, Pt.slots] at X4 l4 y4 z4 st4 hQ4
    subst l4 y4 z4
    obtain ⟨rfl, N4q, e4⟩ := hQ4
    have N4 := Fr.app N0 N4q
    refine own_go st4 ?_
    show own_G p e below s _ _ _ (T4.setTop (mkF m 12 #[.val (.ref a), .val (.ref b), .val (.ref c')] [(.int (own_has la r0))]))
    rcases own_has_01 la r0 with hh | ⟨hh, hn⟩
    · rw [hh]
      show own_G p e below s _ _ _ (T4.setTop (mkF m 12 #[.val (.ref a), .val (.ref b), .val (.ref c')] [(.int (1 : Int32))]))
      refine own_if_neY X4 hx (pc := 12) (pc' := 25) (hb hby d6_12) (by decide) (by decide) (by decide) ?_
      exact J1 _ _ (X4.more (by decide) (by decide)) N4 e4
    · rw [hh]
      have mm0 := m0.resolve_left hn
      show own_G p e below s _ _ _ (T4.setTop (mkF m 12 #[.val (.ref a), .val (.ref b), .val (.ref c')] [(.int (0 : Int32))]))
      refine own_if_neN X4 hx (pc := 12) (hb hby d6_12) (by decide) ?_
      show own_G p e below s _ _ _ (T4.setTop (mkF m 15 #[.val (.ref a), .val (.ref b), .val (.ref c')] []))
      refine own_go (fun _ kk_ => XS.aloadN X4.here hx rfl (hb hby d6_15) rfl rfl kk_) ?_
      show own_G p e below s _ _ _ (T4.setTop (mkF m 16 #[.val (.ref a), .val (.ref b), .val (.ref c')] [(.ref c')]))
      refine own_go (fun _ kk_ => XS.aloadN X4.here hx rfl (hb hby d6_16) rfl rfl kk_) ?_
      show own_G p e below s _ _ _ (T4.setTop (mkF m 17 #[.val (.ref a), .val (.ref b), .val (.ref c')] [(.ref a), (.ref c')]))
      refine own_go (fun _ kk_ => XS.iconst X4.here hx rfl (hb hby d6_17) kk_) ?_
      show own_G p e below s _ _ _ (T4.setTop (mkF m 18 #[.val (.ref a), .val (.ref b), .val (.ref c')] [(.int (0 : Int32)), (.ref a), (.ref c')]))
      have Vc5 := V_a
      obtain ⟨cl5, Ar5, q5, S5, M5, H5, G5⟩ := Vc5
      have hin5 := inb_of (j := (0 : Int32)) S5 ⟨(by decide), (by decide)⟩
      have hat5 := H5.at hin5 (v := (.int r0)) rfl
      refine own_go (X4.iaload hx (j := (0 : Int32)) (v := (.int r0)) (by rw [e4]; exact Ar5.1) (State.isArrayOf_alike hZ.alike Ar5.2.1) Ar5.2.2 hin5 hat5 (g := (mkF m 18 #[.val (.ref a), .val (.ref b), .val (.ref c')] [(.int (0 : Int32)), (.ref a), (.ref c')])) rfl rfl (hb hby d6_18)) ?_
      show own_G p e below s _ _ _ (T4.setTop (mkF m 19 #[.val (.ref a), .val (.ref b), .val (.ref c')] [(.int r0), (.ref c')]))
      obtain ⟨_, _, ⟨T6, L6, k6, n6⟩, -, X6, ⟨Lc6, hQ6, l6, y6, z6⟩, st6⟩ := Jvm.LawKit.callS X4 hx (y := (⟨"com/example/petri_net_analyzer/petrinetanalyzer/SparseVectorUnionPinLaw", "has", "([II)Z"⟩ : MethodName)) hown (mvT hZ (hw _ (List.mem_of_getElem? (i := 36) rfl))) (mvT hZ (hw _ (List.mem_of_getElem? (i := 37) rfl))) (mvT hZ (hw _ (List.mem_of_getElem? (i := 2) rfl))) (mvT hZ (hw _ (List.mem_of_getElem? (i := 38) rfl))) (by decide) (backOf (W := 0) (rmH l Z a0 hw [] c' kc lb r0 h0 n0 Z0 hlb V_c) hZ (hw _ (List.mem_of_getElem? (i := 38) rfl)) (hw _ (List.mem_of_getElem? (i := 2) rfl)) (by decide) (by decide)) (g := (mkF m 19 #[.val (.ref a), .val (.ref b), .val (.ref c')] [(.int r0), (.ref c')])) rfl (by rw [hml]; rfl) (argsL := [(.ref c'), (.int r0)]) (rest := []) (lenOf pd_2 rfl) rfl (by show 2 * 0 + _ ≤ _; exact Nat.le_of_eq rfl) (hb hby d6_19) (fun _ _ => ⟨rfl, e4, (by decide : 0 + 0 ≤ _), (by decide : 0 + 0 ≤ _)⟩)
      dsimp only [Pt.U, Pt.locs, Pt.cells, Pt.slots] at X6 l6 y6 z6 st6 hQ6
      subst l6 y6 z6
      obtain ⟨rfl, N6q, e6⟩ := hQ6
      have N6 := Fr.app N4 N6q
      refine own_go st6 ?_
      show own_G p e below s _ _ _ (T6.setTop (mkF m 22 #[.val (.ref a), .val (.ref b), .val (.ref c')] [(.int (own_has lb r0))]))
      rw [own_has_mem lb r0 mm0]
      show own_G p e below s _ _ _ (T6.setTop (mkF m 22 #[.val (.ref a), .val (.ref b), .val (.ref c')] [(.int (1 : Int32))]))
      refine own_if_eqN X6 hx (pc := 22) (hb hby d6_22) (by decide) ?_
      exact J1 _ _ (X6.more (by decide) (by decide)) N6 e6
  intro T1 lo1 X1 N1 e1
  suffices J7 : ∀ (T7 : State) (lo7 : List Loc), Stand p l e ({ frames := 1, cells := 0, slots := 0, locals := 30 } : Room) s m #[(.ref a), (.ref b), (.ref c')] below meth c T7 lo7 0 0 → Fr n0 lo7 → T7.heap = h0 → own_G p e below s (Q_rmF Z a b c' ka kb kc [r0, r1] la lb h0 n0) ({ frames := 1, cells := 0, slots := 0, locals := 30 } : Room).cells ({ frames := 1, cells := 0, slots := 0, locals := 30 } : Room).slots (T7.setTop (mkF m 51 #[.val (.ref a), .val (.ref b), .val (.ref c')] [])) by
    show own_G p e below s _ _ _ (T1.setTop (mkF m 25 #[.val (.ref a), .val (.ref b), .val (.ref c')] []))
    refine own_go (fun _ kk_ => XS.aloadN X1.here hx rfl (hb hby d6_25) rfl rfl kk_) ?_
    show own_G p e below s _ _ _ (T1.setTop (mkF m 26 #[.val (.ref a), .val (.ref b), .val (.ref c')] [(.ref a)]))
    have Vc8 := V_a
    obtain ⟨cl8, Ar8, q8, S8, M8, H8, G8⟩ := Vc8
    refine own_go (X1.arraylength hx (cell := cl8) (by rw [e1]; exact Ar8.1) (State.isArrayOf_alike hZ.alike Ar8.2.1) (g := (mkF m 26 #[.val (.ref a), .val (.ref b), .val (.ref c')] [(.ref a)])) rfl (rest := []) rfl (hb hby d6_26)) ?_
    rw [len_of S8 M8]
    show own_G p e below s _ _ _ (T1.setTop (mkF m 27 #[.val (.ref a), .val (.ref b), .val (.ref c')] [(.int (2 : Int32))]))
    refine own_go (fun _ kk_ => XS.iconst X1.here hx rfl (hb hby d6_27) kk_) ?_
    show own_G p e below s _ _ _ (T1.setTop (mkF m 28 #[.val (.ref a), .val (.ref b), .val (.ref c')] [(.int (1 : Int32)), (.int (2 : Int32))]))
    refine own_ic_leN X1 hx (pc := 28) (hb hby d6_28) (by decide) ?_
    show own_G p e below s _ _ _ (T1.setTop (mkF m 31 #[.val (.ref a), .val (.ref b), .val (.ref c')] []))
    refine own_go (fun _ kk_ => XS.aloadN X1.here hx rfl (hb hby d6_31) rfl rfl kk_) ?_
    show own_G p e below s _ _ _ (T1.setTop (mkF m 32 #[.val (.ref a), .val (.ref b), .val (.ref c')] [(.ref b)]))
    refine own_go (fun _ kk_ => XS.aloadN X1.here hx rfl (hb hby d6_32) rfl rfl kk_) ?_
    show own_G p e below s _ _ _ (T1.setTop (mkF m 33 #[.val (.ref a), .val (.ref b), .val (.ref c')] [(.ref a), (.ref b)]))
    refine own_go (fun _ kk_ => XS.iconst X1.here hx rfl (hb hby d6_33) kk_) ?_
    show own_G p e below s _ _ _ (T1.setTop (mkF m 34 #[.val (.ref a), .val (.ref b), .val (.ref c')] [(.int (1 : Int32)), (.ref a), (.ref b)]))
    have Vc9 := V_a
    obtain ⟨cl9, Ar9, q9, S9, M9, H9, G9⟩ := Vc9
    have hin9 := inb_of (j := (1 : Int32)) S9 ⟨(by decide), (by decide)⟩
    have hat9 := H9.at hin9 (v := (.int r1)) rfl
    refine own_go (X1.iaload hx (j := (1 : Int32)) (v := (.int r1)) (by rw [e1]; exact Ar9.1) (State.isArrayOf_alike hZ.alike Ar9.2.1) Ar9.2.2 hin9 hat9 (g := (mkF m 34 #[.val (.ref a), .val (.ref b), .val (.ref c')] [(.int (1 : Int32)), (.ref a), (.ref b)])) rfl rfl (hb hby d6_34)) ?_
    show own_G p e below s _ _ _ (T1.setTop (mkF m 35 #[.val (.ref a), .val (.ref b), .val (.ref c')] [(.int r1), (.ref b)]))
    obtain ⟨_, _, ⟨T10, L10, k10, n10⟩, -, X10, ⟨Lc10, hQ10, l10, y10, z10⟩, st10⟩ := Jvm.LawKit.callS X1 hx (y := (⟨"com/example/petri_net_analyzer/petrinetanalyzer/SparseVectorUnionPinLaw", "has", "([II)Z"⟩ : MethodName)) hown (mvT hZ (hw _ (List.mem_of_getElem? (i := 36) rfl))) (mvT hZ (hw _ (List.mem_of_getElem? (i := 37) rfl))) (mvT hZ (hw _ (List.mem_of_getElem? (i := 2) rfl))) (mvT hZ (hw _ (List.mem_of_getElem? (i := 38) rfl))) (by decide) (backOf (W := 0) (rmH l Z a0 hw [] b kb la r1 h0 n0 Z0 hla V_b) hZ (hw _ (List.mem_of_getElem? (i := 38) rfl)) (hw _ (List.mem_of_getElem? (i := 2) rfl)) (by decide) (by decide)) (g := (mkF m 35 #[.val (.ref a), .val (.ref b), .val (.ref c')] [(.int r1), (.ref b)])) rfl (by rw [hml]; rfl) (argsL := [(.ref b), (.int r1)]) (rest := []) (lenOf pd_2 rfl) rfl (by show 2 * 0 + _ ≤ _; exact Nat.le_of_eq rfl) (hb hby d6_35) (fun _ _ => ⟨rfl, e1, (by decide : 0 + 0 ≤ _), (by decide : 0 + 0 ≤ _)⟩)
    dsimp only [Pt.U, Pt.locs, Pt.cells, Pt.slots] at X10 l10 y10 z10 st10 hQ10
    subst l10 y10 z10
    obtain ⟨rfl, N10q, e10⟩ := hQ10
    have N10 := Fr.app N1 N10q
    refine own_go st10 ?_
    show own_G p e below s _ _ _ (T10.setTop (mkF m 38 #[.val (.ref a), .val (.ref b), .val (.ref c')] [(.int (own_has la r1))]))
    rcases own_has_01 la r1 with hh | ⟨hh, hn⟩
    · rw [hh]
      show own_G p e below s _ _ _ (T10.setTop (mkF m 38 #[.val (.ref a), .val (.ref b), .val (.ref c')] [(.int (1 : Int32))]))
      refine own_if_neY X10 hx (pc := 38) (pc' := 51) (hb hby d6_38) (by decide) (by decide) (by decide) ?_
      exact J7 _ _ (X10.more (by decide) (by decide)) N10 e10
    · rw [hh]
      have mm1 := m1.resolve_left hn
      show own_G p e below s _ _ _ (T10.setTop (mkF m 38 #[.val (.ref a), .val (.ref b), .val (.ref c')] [(.int (0 : Int32))]))
      refine own_if_neN X10 hx (pc := 38) (hb hby d6_38) (by decide) ?_
      show own_G p e below s _ _ _ (T10.setTop (mkF m 41 #[.val (.ref a), .val (.ref b), .val (.ref c')] []))
      refine own_go (fun _ kk_ => XS.aloadN X10.here hx rfl (hb hby d6_41) rfl rfl kk_) ?_
      show own_G p e below s _ _ _ (T10.setTop (mkF m 42 #[.val (.ref a), .val (.ref b), .val (.ref c')] [(.ref c')]))
      refine own_go (fun _ kk_ => XS.aloadN X10.here hx rfl (hb hby d6_42) rfl rfl kk_) ?_
      show own_G p e below s _ _ _ (T10.setTop (mkF m 43 #[.val (.ref a), .val (.ref b), .val (.ref c')] [(.ref a), (.ref c')]))
      refine own_go (fun _ kk_ => XS.iconst X10.here hx rfl (hb hby d6_43) kk_) ?_
      show own_G p e below s _ _ _ (T10.setTop (mkF m 44 #[.val (.ref a), .val (.ref b), .val (.ref c')] [(.int (1 : Int32)), (.ref a), (.ref c')]))
      have Vc11 := V_a
      obtain ⟨cl11, Ar11, q11, S11, M11, H11, G11⟩ := Vc11
      have hin11 := inb_of (j := (1 : Int32)) S11 ⟨(by decide), (by decide)⟩
      have hat11 := H11.at hin11 (v := (.int r1)) rfl
      refine own_go (X10.iaload hx (j := (1 : Int32)) (v := (.int r1)) (by rw [e10]; exact Ar11.1) (State.isArrayOf_alike hZ.alike Ar11.2.1) Ar11.2.2 hin11 hat11 (g := (mkF m 44 #[.val (.ref a), .val (.ref b), .val (.ref c')] [(.int (1 : Int32)), (.ref a), (.ref c')])) rfl rfl (hb hby d6_44)) ?_
      show own_G p e below s _ _ _ (T10.setTop (mkF m 45 #[.val (.ref a), .val (.ref b), .val (.ref c')] [(.int r1), (.ref c')]))
      obtain ⟨_, _, ⟨T12, L12, k12, n12⟩, -, X12, ⟨Lc12, hQ12, l12, y12, z12⟩, st12⟩ := Jvm.LawKit.callS X10 hx (y := (⟨"com/example/petri_net_analyzer/petrinetanalyzer/SparseVectorUnionPinLaw", "has", "([II)Z"⟩ : MethodName)) hown (mvT hZ (hw _ (List.mem_of_getElem? (i := 36) rfl))) (mvT hZ (hw _ (List.mem_of_getElem? (i := 37) rfl))) (mvT hZ (hw _ (List.mem_of_getElem? (i := 2) rfl))) (mvT hZ (hw _ (List.mem_of_getElem? (i := 38) rfl))) (by decide) (backOf (W := 0) (rmH l Z a0 hw [] c' kc lb r1 h0 n0 Z0 hlb V_c) hZ (hw _ (List.mem_of_getElem? (i := 38) rfl)) (hw _ (List.mem_of_getElem? (i := 2) rfl)) (by decide) (by decide)) (g := (mkF m 45 #[.val (.ref a), .val (.ref b), .val (.ref c')] [(.int r1), (.ref c')])) rfl (by rw [hml]; rfl) (argsL := [(.ref c'), (.int r1)]) (rest := []) (lenOf pd_2 rfl) rfl (by show 2 * 0 + _ ≤ _; exact Nat.le_of_eq rfl) (hb hby d6_45) (fun _ _ => ⟨rfl, e10, (by decide : 0 + 0 ≤ _), (by decide : 0 + 0 ≤ _)⟩)
      dsimp only [Pt.U, Pt.locs, Pt.cells, Pt.slots] at X12 l12 y12 z12 st12 hQ12
      subst l12 y12 z12
      obtain ⟨rfl, N12q, e12⟩ := hQ12
      have N12 := Fr.app N10 N12q
      refine own_go st12 ?_
      show own_G p e below s _ _ _ (T12.setTop (mkF m 48 #[.val (.ref a), .val (.ref b), .val (.ref c')] [(.int (own_has lb r1))]))
      rw [own_has_mem lb r1 mm1]
      show own_G p e below s _ _ _ (T12.setTop (mkF m 48 #[.val (.ref a), .val (.ref b), .val (.ref c')] [(.int (1 : Int32))]))
      refine own_if_eqN X12 hx (pc := 48) (hb hby d6_48) (by decide) ?_
      exact J7 _ _ (X12.more (by decide) (by decide)) N12 e12
  intro T7 lo7 X7 N7 e7
  show own_G p e below s _ _ _ (T7.setTop (mkF m 51 #[.val (.ref a), .val (.ref b), .val (.ref c')] []))
  refine own_go (fun _ kk_ => XS.aloadN X7.here hx rfl (hb hby d6_51) rfl rfl kk_) ?_
  show own_G p e below s _ _ _ (T7.setTop (mkF m 52 #[.val (.ref a), .val (.ref b), .val (.ref c')] [(.ref a)]))
  have Vc13 := V_a
  obtain ⟨cl13, Ar13, q13, S13, M13, H13, G13⟩ := Vc13
  refine own_go (X7.arraylength hx (cell := cl13) (by rw [e7]; exact Ar13.1) (State.isArrayOf_alike hZ.alike Ar13.2.1) (g := (mkF m 52 #[.val (.ref a), .val (.ref b), .val (.ref c')] [(.ref a)])) rfl (rest := []) rfl (hb hby d6_52)) ?_
  rw [len_of S13 M13]
  show own_G p e below s _ _ _ (T7.setTop (mkF m 53 #[.val (.ref a), .val (.ref b), .val (.ref c')] [(.int (2 : Int32))]))
  refine own_go (fun _ kk_ => XS.iconst X7.here hx rfl (hb hby d6_53) kk_) ?_
  show own_G p e below s _ _ _ (T7.setTop (mkF m 54 #[.val (.ref a), .val (.ref b), .val (.ref c')] [(.int (2 : Int32)), (.int (2 : Int32))]))
  refine own_ic_leY X7 hx (pc := 54) (pc' := 77) (hb hby d6_54) (by decide) (by decide) (by decide) ?_
  show own_G p e below s _ _ _ (T7.setTop (mkF m 77 #[.val (.ref a), .val (.ref b), .val (.ref c')] []))
  refine own_go (fun _ kk_ => XS.aloadN X7.here hx rfl (hb hby d6_77) rfl rfl kk_) ?_
  show own_G p e below s _ _ _ (T7.setTop (mkF m 78 #[.val (.ref a), .val (.ref b), .val (.ref c')] [(.ref a)]))
  have Vc14 := V_a
  obtain ⟨cl14, Ar14, q14, S14, M14, H14, G14⟩ := Vc14
  refine own_go (X7.arraylength hx (cell := cl14) (by rw [e7]; exact Ar14.1) (State.isArrayOf_alike hZ.alike Ar14.2.1) (g := (mkF m 78 #[.val (.ref a), .val (.ref b), .val (.ref c')] [(.ref a)])) rfl (rest := []) rfl (hb hby d6_78)) ?_
  rw [len_of S14 M14]
  show own_G p e below s _ _ _ (T7.setTop (mkF m 79 #[.val (.ref a), .val (.ref b), .val (.ref c')] [(.int (2 : Int32))]))
  refine own_go (fun _ kk_ => XS.iconst X7.here hx rfl (hb hby d6_79) kk_) ?_
  show own_G p e below s _ _ _ (T7.setTop (mkF m 80 #[.val (.ref a), .val (.ref b), .val (.ref c')] [(.int (3 : Int32)), (.int (2 : Int32))]))
  refine own_ic_leY X7 hx (pc := 80) (pc' := 103) (hb hby d6_80) (by decide) (by decide) (by decide) ?_
  show own_G p e below s _ _ _ (T7.setTop (mkF m 103 #[.val (.ref a), .val (.ref b), .val (.ref c')] []))
  refine own_go (fun _ kk_ => XS.iconst X7.here hx rfl (hb hby d6_103) kk_) ?_
  show own_G p e below s _ _ _ (T7.setTop (mkF m 104 #[.val (.ref a), .val (.ref b), .val (.ref c')] [(.int (1 : Int32))]))
  refine own_go (fun _ kk_ => XS.goto X7.here hx rfl (pc0 := 104) (pc' := 108) rfl (hb hby d6_104) (by decide) (by decide) kk_) ?_
  show own_G p e below s _ _ _ (T7.setTop (mkF m 108 #[.val (.ref a), .val (.ref b), .val (.ref c')] [(.int (1 : Int32))]))
  exact own_retN (t := .boolean) (ht := by simp) X7 hx Bd.returns (BodyLoose.notSynchronized Bd) (hb hby d6_108) e7 ⟨rfl, N7, rfl⟩ (by decide) (by decide)
theorem d6_57 : decode method_7_code 57 = .ok (.aload_n 1, 1) := by decide +kernel
theorem d6_58 : decode method_7_code 58 = .ok (.aload_n 0, 1) := by decide +kernel
theorem d6_59 : decode method_7_code 59 = .ok (.iconst 2, 1) := by decide +kernel
theorem d6_60 : decode method_7_code 60 = .ok (.iaload, 1) := by decide +kernel
theorem d6_61 : decode method_7_code 61 = .ok (.invokestatic 40, 3) := by decide +kernel
theorem d6_64 : decode method_7_code 64 = .ok (.ifCond .ne 13, 3) := by decide +kernel
theorem d6_67 : decode method_7_code 67 = .ok (.aload_n 2, 1) := by decide +kernel
theorem d6_68 : decode method_7_code 68 = .ok (.aload_n 0, 1) := by decide +kernel
theorem d6_69 : decode method_7_code 69 = .ok (.iconst 2, 1) := by decide +kernel
theorem d6_70 : decode method_7_code 70 = .ok (.iaload, 1) := by decide +kernel
theorem d6_71 : decode method_7_code 71 = .ok (.invokestatic 40, 3) := by decide +kernel
theorem d6_74 : decode method_7_code 74 = .ok (.ifCond .eq 33, 3) := by decide +kernel
theorem ef_rmF3 (m : MethodId) (x0 : Addr) (x1 : Addr) (x2 : Addr) : entryFrame m #[(.ref x0), (.ref x1), (.ref x2)] 3 = mkF m 0 #[.val (.ref x0), .val (.ref x1), .val (.ref x2)] [] := by first | (simp [entryFrame, mkF, argsToLocals, Value.category]; done) | rfl
set_option maxRecDepth 65536 in
set_option maxHeartbeats 40000000 in
theorem rmF3 (l : Launch) (Z : State) (a0 : Array Value) (hw : ∀ d ∈ tables_1, d.before a0 Z = true) (ws : List Jvm.Cond) (a b c' : Addr) (ka kb kc : ClassId) (la lb : List Int32) (r0 r1 r2 : Int32) (h0 : Heap) (n0 : Nat) (Z0 : n0 ≤ h0.size) (V_a : Arv Z h0 a ka .int (3 : Int32) [(.int r0), (.int r1), (.int r2)] (.int (0 : Int32))) (V_b : Arv Z h0 b kb .int (Int32.ofNat la.length) (la.map Value.int) (.int (0 : Int32))) (V_c : Arv Z h0 c' kc .int (Int32.ofNat lb.length) (lb.map Value.int) (.int (0 : Int32))) (hla : la.length ≤ 4) (hlb : lb.length ≤ 4) (m0 : r0 ∈ la ∨ r0 ∈ lb) (m1 : r1 ∈ la ∨ r1 ∈ lb) (m2 : r2 ∈ la ∨ r2 ∈ lb) :
    MetFree l (⟨"com/example/petri_net_analyzer/petrinetanalyzer/SparseVectorUnionPinLaw", "fromEither", "([I[I[I)Z"⟩ : MethodName) (head1 (Jvm.Cond.code (⟨"com/example/petri_net_analyzer/petrinetanalyzer/SparseVectorUnionPinLaw", "fromEither", "([I[I[I)Z"⟩ : MethodName) method_7_code 3 (some .boolean) :: ws) ({ frames := 1, cells := 0, slots := 0, locals := 30 } : Room)) (fun as_ U => as_ = #[(.ref a), (.ref b), (.ref c')] ∧ Z.Warmed39 U.vm ∧ U.heap = h0) (fun _ _ _ _ _ => True) (fun _ U o U' => ∃ v L, o = .returned v ∧ (Q_rmF Z a b c' ka kb kc [r0, r1, r2] la lb h0 n0) v U'.heap L ∧ FrameEnd U o U' L ({ frames := 1, cells := 0, slots := 0, locals := 30 } : Room).cells ({ frames := 1, cells := 0, slots := 0, locals := 30 } : Room).slots) := by
  refine MetFree.of_bodySF (plainFor_of_name pn_0) hisR ?_
  intro p e s m args below meth c s₁ Bd hml0 hP hK
  obtain ⟨rfl, hZ, hh⟩ := hP
  have hx := Bd.exec
  have hby := Bd.bytes
  have hml : c.maxLocals = 3 := hml0
  have hown : s.vm.findClass "com/example/petri_net_analyzer/petrinetanalyzer/SparseVectorUnionPinLaw" = some m.cls := findClass_of_methodNamed Bd.named
  have hnm := (name_of_methodNamed Bd.named Bd.method).1
  have X0 : Stand p l e ({ frames := 1, cells := 0, slots := 0, locals := 30 } : Room) s m #[(.ref a), (.ref b), (.ref c')] below meth c s₁ [] 0 0 := Stand.of_body Bd
  have e0 : s₁.heap = h0 := by rw [← hh, Bd.state]; rfl
  have N0 := Fr.nil n0
  show own_G p e below s (Q_rmF Z a b c' ka kb kc [r0, r1, r2] la lb h0 n0) ({ frames := 1, cells := 0, slots := 0, locals := 30 } : Room).cells ({ frames := 1, cells := 0, slots := 0, locals := 30 } : Room).slots (s₁.setTop (entryFrame m #[(.ref a), (.ref b), (.ref c')] 3))
  rw [ef_rmF3 m a b c']
  suffices J1 : ∀ (T1 : State) (lo1 : List Loc), Stand p l e ({ frames := 1, cells := 0, slots := 0, locals := 30 } : Room) s m #[(.ref a), (.ref b), (.ref c')] below meth c T1 lo1 0 0 → Fr n0 lo1 → T1.heap = h0 → own_G p e below s (Q_rmF Z a b c' ka kb kc [r0, r1, r2] la lb h0 n0) ({ frames := 1, cells := 0, slots := 0, locals := 30 } : Room).cells ({ frames := 1, cells := 0, slots := 0, locals := 30 } : Room).slots (T1.setTop (mkF m 25 #[.val (.ref a), .val (.ref b), .val (.ref c')] [])) by
    show own_G p e below s _ _ _ (s₁.setTop (mkF m 0 #[.val (.ref a), .val (.ref b), .val (.ref c')] []))
    refine own_go (fun _ kk_ => XS.aloadN X0.here hx rfl (hb hby d6_0) rfl rfl kk_) ?_
    show own_G p e below s _ _ _ (s₁.setTop (mkF m 1 #[.val (.ref a), .val (.ref b), .val (.ref c')] [(.ref a)]))
    have Vc2 := V_a
    obtain ⟨cl2, Ar2, q2, S2, M2, H2, G2⟩ := Vc2
    refine own_go (X0.arraylength hx (cell := cl2) (by rw [e0]; exact Ar2.1) (State.isArrayOf_alike hZ.alike Ar2.2.1) (g := (mkF m 1 #[.val (.ref a), .val (.ref b), .val (.ref c')] [(.ref a)])) rfl (rest := []) rfl (hb hby d6_1)) ?_
    rw [len_of S2 M2]
    show own_G p e below s _ _ _ (s₁.setTop (mkF m 2 #[.val (.ref a), .val (.ref b), .val (.ref c')] [(.int (3 : Int32))]))
    refine own_if_leN X0 hx (pc := 2) (hb hby d6_2) (by decide) ?_
    show own_G p e below s _ _ _ (s₁.setTop (mkF m 5 #[.val (.ref a), .val (.ref b), .val (.ref c')] []))
    refine own_go (fun _ kk_ => XS.aloadN X0.here hx rfl (hb hby d6_5) rfl rfl kk_) ?_
    show own_G p e below s _ _ _ (s₁.setTop (mkF m 6 #[.val (.ref a), .val (.ref b), .val (.ref c')] [(.ref b)]))
    refine own_go (fun _ kk_ => XS.aloadN X0.here hx rfl (hb hby d6_6) rfl rfl kk_) ?_
    show own_G p e below s _ _ _ (s₁.setTop (mkF m 7 #[.val (.ref a), .val (.ref b), .val (.ref c')] [(.ref a), (.ref b)]))
    refine own_go (fun _ kk_ => XS.iconst X0.here hx rfl (hb hby d6_7) kk_) ?_
    show own_G p e below s _ _ _ (s₁.setTop (mkF m 8 #[.val (.ref a), .val (.ref b), .val (.ref c')] [(.int (0 : Int32)), (.ref a), (.ref b)]))
    have Vc3 := V_a
    obtain ⟨cl3, Ar3, q3, S3, M3, H3, G3⟩ := Vc3
    have hin3 := inb_of (j := (0 : Int32)) S3 ⟨(by decide), (by decide)⟩
    have hat3 := H3.at hin3 (v := (.int r0)) rfl
    refine own_go (X0.iaload hx (j := (0 : Int32)) (v := (.int r0)) (by rw [e0]; exact Ar3.1) (State.isArrayOf_alike hZ.alike Ar3.2.1) Ar3.2.2 hin3 hat3 (g := (mkF m 8 #[.val (.ref a), .val (.ref b), .val (.ref c')] [(.int (0 : Int32)), (.ref a), (.ref b)])) rfl rfl (hb hby d6_8)) ?_
    show own_G p e below s _ _ _ (s₁.setTop (mkF m 9 #[.val (.ref a), .val (.ref b), .val (.ref c')] [(.int r0), (.ref b)]))
    obtain ⟨_, _, ⟨T4, L4, k4, n4⟩, -, X4, ⟨Lc4, hQ4, l4, y4, z4⟩, st4⟩ := Jvm.LawKit.callS X0 hx (y := (⟨"com/example/petri_net_analyzer/petrinetanalyzer/SparseVectorUnionPinLaw", "has", "([II)Z"⟩ : MethodName)) hown (mvT hZ (hw _ (List.mem_of_getElem? (i := 36) rfl))) (mvT hZ (hw _ (List.mem_of_getElem? (i := 37) rfl))) (mvT hZ (hw _ (List.mem_of_getElem? (i := 2) rfl))) (mvT hZ (hw _ (List.mem_of_getElem? (i := 38) rfl))) (by decide) (backOf (W := 0) (rmH l Z a0 hw [] b kb la r0 h0 n0 Z0 hla V_b) hZ (hw _ (List.mem_of_getElem? (i := 38) rfl)) (hw _ (List.mem_of_getElem? (i := 2) rfl)) (by decide) (by decide)) (g := (mkF m 9 #[.val (.ref a), .val (.ref b), .val (.ref c')] [(.int r0), (.ref b)])) rfl (by rw [hml]; rfl) (argsL := [(.ref b), (.int r0)]) (rest := []) (lenOf pd_2 rfl) rfl (by show 2 * 0 + _ ≤ _; exact Nat.le_of_eq rfl) (hb hby d6_9) (fun _ _ => ⟨rfl, e0, (by decide : 0 + 0 ≤ _), (by decide : 0 + 0 ≤ _)⟩)
    dsimp only [Pt.U, Pt.locs, Pt.cells, Pt.slots] at X4 l4 y4 z4 st4 hQ4
    subst l4 y4 z4
    obtain ⟨rfl, N4q, e4⟩ := hQ4
    have N4 := Fr.app N0 N4q
    refine own_go st4 ?_
    show own_G p e below s _ _ _ (T4.setTop (mkF m 12 #[.val (.ref a), .val (.ref b), .val (.ref c')] [(.int (own_has la r0))]))
    rcases own_has_01 la r0 with hh | ⟨hh, hn⟩
    · rw [hh]
      show own_G p e below s _ _ _ (T4.setTop (mkF m 12 #[.val (.ref a), .val (.ref b), .val (.ref c')] [(.int (1 : Int32))]))
      refine own_if_neY X4 hx (pc := 12) (pc' := 25) (hb hby d6_12) (by decide) (by decide) (by decide) ?_
      exact J1 _ _ (X4.more (by decide) (by decide)) N4 e4
    · rw [hh]
      have mm0 := m0.resolve_left hn
      show own_G p e below s _ _ _ (T4.setTop (mkF m 12 #[.val (.ref a), .val (.ref b), .val (.ref c')] [(.int (0 : Int32))]))
      refine own_if_neN X4 hx (pc := 12) (hb hby d6_12) (by decide) ?_
      show own_G p e below s _ _ _ (T4.setTop (mkF m 15 #[.val (.ref a), .val (.ref b), .val (.ref c')] []))
      refine own_go (fun _ kk_ => XS.aloadN X4.here hx rfl (hb hby d6_15) rfl rfl kk_) ?_
      show own_G p e below s _ _ _ (T4.setTop (mkF m 16 #[.val (.ref a), .val (.ref b), .val (.ref c')] [(.ref c')]))
      refine own_go (fun _ kk_ => XS.aloadN X4.here hx rfl (hb hby d6_16) rfl rfl kk_) ?_
      show own_G p e below s _ _ _ (T4.setTop (mkF m 17 #[.val (.ref a), .val (.ref b), .val (.ref c')] [(.ref a), (.ref c')]))
      refine own_go (fun _ kk_ => XS.iconst X4.here hx rfl (hb hby d6_17) kk_) ?_
      show own_G p e below s _ _ _ (T4.setTop (mkF m 18 #[.val (.ref a), .val (.ref b), .val (.ref c')] [(.int (0 : Int32)), (.ref a), (.ref c')]))
      have Vc5 := V_a
      obtain ⟨cl5, Ar5, q5, S5, M5, H5, G5⟩ := Vc5
      have hin5 := inb_of (j := (0 : Int32)) S5 ⟨(by decide), (by decide)⟩
      have hat5 := H5.at hin5 (v := (.int r0)) rfl
      refine own_go (X4.iaload hx (j := (0 : Int32)) (v := (.int r0)) (by rw [e4]; exact Ar5.1) (State.isArrayOf_alike hZ.alike Ar5.2.1) Ar5.2.2 hin5 hat5 (g := (mkF m 18 #[.val (.ref a), .val (.ref b), .val (.ref c')] [(.int (0 : Int32)), (.ref a), (.ref c')])) rfl rfl (hb hby d6_18)) ?_
      show own_G p e below s _ _ _ (T4.setTop (mkF m 19 #[.val (.ref a), .val (.ref b), .val (.ref c')] [(.int r0), (.ref c')]))
      obtain ⟨_, _, ⟨T6, L6, k6, n6⟩, -, X6, ⟨Lc6, hQ6, l6, y6, z6⟩, st6⟩ := Jvm.LawKit.callS X4 hx (y := (⟨"com/example/petri_net_analyzer/petrinetanalyzer/SparseVectorUnionPinLaw", "has", "([II)Z"⟩ : MethodName)) hown (mvT hZ (hw _ (List.mem_of_getElem? (i := 36) rfl))) (mvT hZ (hw _ (List.mem_of_getElem? (i := 37) rfl))) (mvT hZ (hw _ (List.mem_of_getElem? (i := 2) rfl))) (mvT hZ (hw _ (List.mem_of_getElem? (i := 38) rfl))) (by decide) (backOf (W := 0) (rmH l Z a0 hw [] c' kc lb r0 h0 n0 Z0 hlb V_c) hZ (hw _ (List.mem_of_getElem? (i := 38) rfl)) (hw _ (List.mem_of_getElem? (i := 2) rfl)) (by decide) (by decide)) (g := (mkF m 19 #[.val (.ref a), .val (.ref b), .val (.ref c')] [(.int r0), (.ref c')])) rfl (by rw [hml]; rfl) (argsL := [(.ref c'), (.int r0)]) (rest := []) (lenOf pd_2 rfl) rfl (by show 2 * 0 + _ ≤ _; exact Nat.le_of_eq rfl) (hb hby d6_19) (fun _ _ => ⟨rfl, e4, (by decide : 0 + 0 ≤ _), (by decide : 0 + 0 ≤ _)⟩)
      dsimp only [Pt.U, Pt.locs, Pt.cells, Pt.slots] at X6 l6 y6 z6 st6 hQ6
      subst l6 y6 z6
      obtain ⟨rfl, N6q, e6⟩ := hQ6
      have N6 := Fr.app N4 N6q
      refine own_go st6 ?_
      show own_G p e below s _ _ _ (T6.setTop (mkF m 22 #[.val (.ref a), .val (.ref b), .val (.ref c')] [(.int (own_has lb r0))]))
      rw [own_has_mem lb r0 mm0]
      show own_G p e below s _ _ _ (T6.setTop (mkF m 22 #[.val (.ref a), .val (.ref b), .val (.ref c')] [(.int (1 : Int32))]))
      refine own_if_eqN X6 hx (pc := 22) (hb hby d6_22) (by decide) ?_
      exact J1 _ _ (X6.more (by decide) (by decide)) N6 e6
  intro T1 lo1 X1 N1 e1
  suffices J7 : ∀ (T7 : State) (lo7 : List Loc), Stand p l e ({ frames := 1, cells := 0, slots := 0, locals := 30 } : Room) s m #[(.ref a), (.ref b), (.ref c')] below meth c T7 lo7 0 0 → Fr n0 lo7 → T7.heap = h0 → own_G p e below s (Q_rmF Z a b c' ka kb kc [r0, r1, r2] la lb h0 n0) ({ frames := 1, cells := 0, slots := 0, locals := 30 } : Room).cells ({ frames := 1, cells := 0, slots := 0, locals := 30 } : Room).slots (T7.setTop (mkF m 51 #[.val (.ref a), .val (.ref b), .val (.ref c')] [])) by
    show own_G p e below s _ _ _ (T1.setTop (mkF m 25 #[.val (.ref a), .val (.ref b), .val (.ref c')] []))
    refine own_go (fun _ kk_ => XS.aloadN X1.here hx rfl (hb hby d6_25) rfl rfl kk_) ?_
    show own_G p e below s _ _ _ (T1.setTop (mkF m 26 #[.val (.ref a), .val (.ref b), .val (.ref c')] [(.ref a)]))
    have Vc8 := V_a
    obtain ⟨cl8, Ar8, q8, S8, M8, H8, G8⟩ := Vc8
    refine own_go (X1.arraylength hx (cell := cl8) (by rw [e1]; exact Ar8.1) (State.isArrayOf_alike hZ.alike Ar8.2.1) (g := (mkF m 26 #[.val (.ref a), .val (.ref b), .val (.ref c')] [(.ref a)])) rfl (rest := []) rfl (hb hby d6_26)) ?_
    rw [len_of S8 M8]
    show own_G p e below s _ _ _ (T1.setTop (mkF m 27 #[.val (.ref a), .val (.ref b), .val (.ref c')] [(.int (3 : Int32))]))
    refine own_go (fun _ kk_ => XS.iconst X1.here hx rfl (hb hby d6_27) kk_) ?_
    show own_G p e below s _ _ _ (T1.setTop (mkF m 28 #[.val (.ref a), .val (.ref b), .val (.ref c')] [(.int (1 : Int32)), (.int (3 : Int32))]))
    refine own_ic_leN X1 hx (pc := 28) (hb hby d6_28) (by decide) ?_
    show own_G p e below s _ _ _ (T1.setTop (mkF m 31 #[.val (.ref a), .val (.ref b), .val (.ref c')] []))
    refine own_go (fun _ kk_ => XS.aloadN X1.here hx rfl (hb hby d6_31) rfl rfl kk_) ?_
    show own_G p e below s _ _ _ (T1.setTop (mkF m 32 #[.val (.ref a), .val (.ref b), .val (.ref c')] [(.ref b)]))
    refine own_go (fun _ kk_ => XS.aloadN X1.here hx rfl (hb hby d6_32) rfl rfl kk_) ?_
    show own_G p e below s _ _ _ (T1.setTop (mkF m 33 #[.val (.ref a), .val (.ref b), .val (.ref c')] [(.ref a), (.ref b)]))
    refine own_go (fun _ kk_ => XS.iconst X1.here hx rfl (hb hby d6_33) kk_) ?_
    show own_G p e below s _ _ _ (T1.setTop (mkF m 34 #[.val (.ref a), .val (.ref b), .val (.ref c')] [(.int (1 : Int32)), (.ref a), (.ref b)]))
    have Vc9 := V_a
    obtain ⟨cl9, Ar9, q9, S9, M9, H9, G9⟩ := Vc9
    have hin9 := inb_of (j := (1 : Int32)) S9 ⟨(by decide), (by decide)⟩
    have hat9 := H9.at hin9 (v := (.int r1)) rfl
    refine own_go (X1.iaload hx (j := (1 : Int32)) (v := (.int r1)) (by rw [e1]; exact Ar9.1) (State.isArrayOf_alike hZ.alike Ar9.2.1) Ar9.2.2 hin9 hat9 (g := (mkF m 34 #[.val (.ref a), .val (.ref b), .val (.ref c')] [(.int (1 : Int32)), (.ref a), (.ref b)])) rfl rfl (hb hby d6_34)) ?_
    show own_G p e below s _ _ _ (T1.setTop (mkF m 35 #[.val (.ref a), .val (.ref b), .val (.ref c')] [(.int r1), (.ref b)]))
    obtain ⟨_, _, ⟨T10, L10, k10, n10⟩, -, X10, ⟨Lc10, hQ10, l10, y10, z10⟩, st10⟩ := Jvm.LawKit.callS X1 hx (y := (⟨"com/example/petri_net_analyzer/petrinetanalyzer/SparseVectorUnionPinLaw", "has", "([II)Z"⟩ : MethodName)) hown (mvT hZ (hw _ (List.mem_of_getElem? (i := 36) rfl))) (mvT hZ (hw _ (List.mem_of_getElem? (i := 37) rfl))) (mvT hZ (hw _ (List.mem_of_getElem? (i := 2) rfl))) (mvT hZ (hw _ (List.mem_of_getElem? (i := 38) rfl))) (by decide) (backOf (W := 0) (rmH l Z a0 hw [] b kb la r1 h0 n0 Z0 hla V_b) hZ (hw _ (List.mem_of_getElem? (i := 38) rfl)) (hw _ (List.mem_of_getElem? (i := 2) rfl)) (by decide) (by decide)) (g := (mkF m 35 #[.val (.ref a), .val (.ref b), .val (.ref c')] [(.int r1), (.ref b)])) rfl (by rw [hml]; rfl) (argsL := [(.ref b), (.int r1)]) (rest := []) (lenOf pd_2 rfl) rfl (by show 2 * 0 + _ ≤ _; exact Nat.le_of_eq rfl) (hb hby d6_35) (fun _ _ => ⟨rfl, e1, (by decide : 0 + 0 ≤ _), (by decide : 0 + 0 ≤ _)⟩)
    dsimp only [Pt.U, Pt.locs, Pt.cells, Pt.slots] at X10 l10 y10 z10 st10 hQ10
    subst l10 y10 z10
    obtain ⟨rfl, N10q, e10⟩ := hQ10
    have N10 := Fr.app N1 N10q
    refine own_go st10 ?_
    show own_G p e below s _ _ _ (T10.setTop (mkF m 38 #[.val (.ref a), .val (.ref b), .val (.ref c')] [(.int (own_has la r1))]))
    rcases own_has_01 la r1 with hh | ⟨hh, hn⟩
    · rw [hh]
      show own_G p e below s _ _ _ (T10.setTop (mkF m 38 #[.val (.ref a), .val (.ref b), .val (.ref c')] [(.int (1 : Int32))]))
      refine own_if_neY X10 hx (pc := 38) (pc' := 51) (hb hby d6_38) (by decide) (by decide) (by decide) ?_
      exact J7 _ _ (X10.more (by decide) (by decide)) N10 e10
    · rw [hh]
      have mm1 := m1.resolve_left hn
      show own_G p e below s _ _ _ (T10.setTop (mkF m 38 #[.val (.ref a), .val (.ref b), .val (.ref c')] [(.int (0 : Int32))]))
      refine own_if_neN X10 hx (pc := 38) (hb hby d6_38) (by decide) ?_
      show own_G p e below s _ _ _ (T10.setTop (mkF m 41 #[.val (.ref a), .val (.ref b), .val (.ref c')] []))
      refine own_go (fun _ kk_ => XS.aloadN X10.here hx rfl (hb hby d6_41) rfl rfl kk_) ?_
      show own_G p e below s _ _ _ (T10.setTop (mkF m 42 #[.val (.ref a), .val (.ref b), .val (.ref c')] [(.ref c')]))
      refine own_go (fun _ kk_ => XS.aloadN X10.here hx rfl (hb hby d6_42) rfl rfl kk_) ?_
      show own_G p e below s _ _ _ (T10.setTop (mkF m 43 #[.val (.ref a), .val (.ref b), .val (.ref c')] [(.ref a), (.ref c')]))
      refine own_go (fun _ kk_ => XS.iconst X10.here hx rfl (hb hby d6_43) kk_) ?_
      show own_G p e below s _ _ _ (T10.setTop (mkF m 44 #[.val (.ref a), .val (.ref b), .val (.ref c')] [(.int (1 : Int32)), (.ref a), (.ref c')]))
      have Vc11 := V_a
      obtain ⟨cl11, Ar11, q11, S11, M11, H11, G11⟩ := Vc11
      have hin11 := inb_of (j := (1 : Int32)) S11 ⟨(by decide), (by decide)⟩
      have hat11 := H11.at hin11 (v := (.int r1)) rfl
      refine own_go (X10.iaload hx (j := (1 : Int32)) (v := (.int r1)) (by rw [e10]; exact Ar11.1) (State.isArrayOf_alike hZ.alike Ar11.2.1) Ar11.2.2 hin11 hat11 (g := (mkF m 44 #[.val (.ref a), .val (.ref b), .val (.ref c')] [(.int (1 : Int32)), (.ref a), (.ref c')])) rfl rfl (hb hby d6_44)) ?_
      show own_G p e below s _ _ _ (T10.setTop (mkF m 45 #[.val (.ref a), .val (.ref b), .val (.ref c')] [(.int r1), (.ref c')]))
      obtain ⟨_, _, ⟨T12, L12, k12, n12⟩, -, X12, ⟨Lc12, hQ12, l12, y12, z12⟩, st12⟩ := Jvm.LawKit.callS X10 hx (y := (⟨"com/example/petri_net_analyzer/petrinetanalyzer/SparseVectorUnionPinLaw", "has", "([II)Z"⟩ : MethodName)) hown (mvT hZ (hw _ (List.mem_of_getElem? (i := 36) rfl))) (mvT hZ (hw _ (List.mem_of_getElem? (i := 37) rfl))) (mvT hZ (hw _ (List.mem_of_getElem? (i := 2) rfl))) (mvT hZ (hw _ (List.mem_of_getElem? (i := 38) rfl))) (by decide) (backOf (W := 0) (rmH l Z a0 hw [] c' kc lb r1 h0 n0 Z0 hlb V_c) hZ (hw _ (List.mem_of_getElem? (i := 38) rfl)) (hw _ (List.mem_of_getElem? (i := 2) rfl)) (by decide) (by decide)) (g := (mkF m 45 #[.val (.ref a), .val (.ref b), .val (.ref c')] [(.int r1), (.ref c')])) rfl (by rw [hml]; rfl) (argsL := [(.ref c'), (.int r1)]) (rest := []) (lenOf pd_2 rfl) rfl (by show 2 * 0 + _ ≤ _; exact Nat.le_of_eq rfl) (hb hby d6_45) (fun _ _ => ⟨rfl, e10, (by decide : 0 + 0 ≤ _), (by decide : 0 + 0 ≤ _)⟩)
      dsimp only [Pt.U, Pt.locs, Pt.cells, Pt.slots] at X12 l12 y12 z12 st12 hQ12
      subst l12 y12 z12
      obtain ⟨rfl, N12q, e12⟩ := hQ12
      have N12 := Fr.app N10 N12q
      refine own_go st12 ?_
      show own_G p e below s _ _ _ (T12.setTop (mkF m 48 #[.val (.ref a), .val (.ref b), .val (.ref c')] [(.int (own_has lb r1))]))
      rw [own_has_mem lb r1 mm1]
      show own_G p e below s _ _ _ (T12.setTop (mkF m 48 #[.val (.ref a), .val (.ref b), .val (.ref c')] [(.int (1 : Int32))]))
      refine own_if_eqN X12 hx (pc := 48) (hb hby d6_48) (by decide) ?_
      exact J7 _ _ (X12.more (by decide) (by decide)) N12 e12
  intro T7 lo7 X7 N7 e7
  suffices J13 : ∀ (T13 : State) (lo13 : List Loc), Stand p l e ({ frames := 1, cells := 0, slots := 0, locals := 30 } : Room) s m #[(.ref a), (.ref b), (.ref c')] below meth c T13 lo13 0 0 → Fr n0 lo13 → T13.heap = h0 → own_G p e below s (Q_rmF Z a b c' ka kb kc [r0, r1, r2] la lb h0 n0) ({ frames := 1, cells := 0, slots := 0, locals := 30 } : Room).cells ({ frames := 1, cells := 0, slots := 0, locals := 30 } : Room).slots (T13.setTop (mkF m 77 #[.val (.ref a), .val (.ref b), .val (.ref c')] [])) by
    show own_G p e below s _ _ _ (T7.setTop (mkF m 51 #[.val (.ref a), .val (.ref b), .val (.ref c')] []))
    refine own_go (fun _ kk_ => XS.aloadN X7.here hx rfl (hb hby d6_51) rfl rfl kk_) ?_
    show own_G p e below s _ _ _ (T7.setTop (mkF m 52 #[.val (.ref a), .val (.ref b), .val (.ref c')] [(.ref a)]))
    have Vc14 := V_a
    obtain ⟨cl14, Ar14, q14, S14, M14, H14, G14⟩ := Vc14
    refine own_go (X7.arraylength hx (cell := cl14) (by rw [e7]; exact Ar14.1) (State.isArrayOf_alike hZ.alike Ar14.2.1) (g := (mkF m 52 #[.val (.ref a), .val (.ref b), .val (.ref c')] [(.ref a)])) rfl (rest := []) rfl (hb hby d6_52)) ?_
    rw [len_of S14 M14]
    show own_G p e below s _ _ _ (T7.setTop (mkF m 53 #[.val (.ref a), .val (.ref b), .val (.ref c')] [(.int (3 : Int32))]))
    refine own_go (fun _ kk_ => XS.iconst X7.here hx rfl (hb hby d6_53) kk_) ?_
    show own_G p e below s _ _ _ (T7.setTop (mkF m 54 #[.val (.ref a), .val (.ref b), .val (.ref c')] [(.int (2 : Int32)), (.int (3 : Int32))]))
    refine own_ic_leN X7 hx (pc := 54) (hb hby d6_54) (by decide) ?_
    show own_G p e below s _ _ _ (T7.setTop (mkF m 57 #[.val (.ref a), .val (.ref b), .val (.ref c')] []))
    refine own_go (fun _ kk_ => XS.aloadN X7.here hx rfl (hb hby d6_57) rfl rfl kk_) ?_
    show own_G p e below s _ _ _ (T7.setTop (mkF m 58 #[.val (.ref a), .val (.ref b), .val (.ref c')] [(.ref b)]))
    refine own_go (fun _ kk_ => XS.aloadN X7.here hx rfl (hb hby d6_58) rfl rfl kk_) ?_
    show own_G p e below s _ _ _ (T7.setTop (mkF m 59 #[.val (.ref a), .val (.ref b), .val (.ref c')] [(.ref a), (.ref b)]))
    refine own_go (fun _ kk_ => XS.iconst X7.here hx rfl (hb hby d6_59) kk_) ?_
    show own_G p e below s _ _ _ (T7.setTop (mkF m 60 #[.val (.ref a), .val (.ref b), .val (.ref c')] [(.int (2 : Int32)), (.ref a), (.ref b)]))
    have Vc15 := V_a
    obtain ⟨cl15, Ar15, q15, S15, M15, H15, G15⟩ := Vc15
    have hin15 := inb_of (j := (2 : Int32)) S15 ⟨(by decide), (by decide)⟩
    have hat15 := H15.at hin15 (v := (.int r2)) rfl
    refine own_go (X7.iaload hx (j := (2 : Int32)) (v := (.int r2)) (by rw [e7]; exact Ar15.1) (State.isArrayOf_alike hZ.alike Ar15.2.1) Ar15.2.2 hin15 hat15 (g := (mkF m 60 #[.val (.ref a), .val (.ref b), .val (.ref c')] [(.int (2 : Int32)), (.ref a), (.ref b)])) rfl rfl (hb hby d6_60)) ?_
    show own_G p e below s _ _ _ (T7.setTop (mkF m 61 #[.val (.ref a), .val (.ref b), .val (.ref c')] [(.int r2), (.ref b)]))
    obtain ⟨_, _, ⟨T16, L16, k16, n16⟩, -, X16, ⟨Lc16, hQ16, l16, y16, z16⟩, st16⟩ := Jvm.LawKit.callS X7 hx (y := (⟨"com/example/petri_net_analyzer/petrinetanalyzer/SparseVectorUnionPinLaw", "has", "([II)Z"⟩ : MethodName)) hown (mvT hZ (hw _ (List.mem_of_getElem? (i := 36) rfl))) (mvT hZ (hw _ (List.mem_of_getElem? (i := 37) rfl))) (mvT hZ (hw _ (List.mem_of_getElem? (i := 2) rfl))) (mvT hZ (hw _ (List.mem_of_getElem? (i := 38) rfl))) (by decide) (backOf (W := 0) (rmH l Z a0 hw [] b kb la r2 h0 n0 Z0 hla V_b) hZ (hw _ (List.mem_of_getElem? (i := 38) rfl)) (hw _ (List.mem_of_getElem? (i := 2) rfl)) (by decide) (by decide)) (g := (mkF m 61 #[.val (.ref a), .val (.ref b), .val (.ref c')] [(.int r2), (.ref b)])) rfl (by rw [hml]; rfl) (argsL := [(.ref b), (.int r2)]) (rest := []) (lenOf pd_2 rfl) rfl (by show 2 * 0 + _ ≤ _; exact Nat.le_of_eq rfl) (hb hby d6_61) (fun _ _ => ⟨rfl, e7, (by decide : 0 + 0 ≤ _), (by decide : 0 + 0 ≤ _)⟩)
    dsimp only [Pt.U, Pt.locs, Pt.cells, Pt.slots] at X16 l16 y16 z16 st16 hQ16
    subst l16 y16 z16
    obtain ⟨rfl, N16q, e16⟩ := hQ16
    have N16 := Fr.app N7 N16q
    refine own_go st16 ?_
    show own_G p e below s _ _ _ (T16.setTop (mkF m 64 #[.val (.ref a), .val (.ref b), .val (.ref c')] [(.int (own_has la r2))]))
    rcases own_has_01 la r2 with hh | ⟨hh, hn⟩
    · rw [hh]
      show own_G p e below s _ _ _ (T16.setTop (mkF m 64 #[.val (.ref a), .val (.ref b), .val (.ref c')] [(.int (1 : Int32))]))
      refine own_if_neY X16 hx (pc := 64) (pc' := 77) (hb hby d6_64) (by decide) (by decide) (by decide) ?_
      exact J13 _ _ (X16.more (by decide) (by decide)) N16 e16
    · rw [hh]
      have mm2 := m2.resolve_left hn
      show own_G p e below s _ _ _ (T16.setTop (mkF m 64 #[.val (.ref a), .val (.ref b), .val (.ref c')] [(.int (0 : Int32))]))
      refine own_if_neN X16 hx (pc := 64) (hb hby d6_64) (by decide) ?_
      show own_G p e below s _ _ _ (T16.setTop (mkF m 67 #[.val (.ref a), .val (.ref b), .val (.ref c')] []))
      refine own_go (fun _ kk_ => XS.aloadN X16.here hx rfl (hb hby d6_67) rfl rfl kk_) ?_
      show own_G p e below s _ _ _ (T16.setTop (mkF m 68 #[.val (.ref a), .val (.ref b), .val (.ref c')] [(.ref c')]))
      refine own_go (fun _ kk_ => XS.aloadN X16.here hx rfl (hb hby d6_68) rfl rfl kk_) ?_
      show own_G p e below s _ _ _ (T16.setTop (mkF m 69 #[.val (.ref a), .val (.ref b), .val (.ref c')] [(.ref a), (.ref c')]))
      refine own_go (fun _ kk_ => XS.iconst X16.here hx rfl (hb hby d6_69) kk_) ?_
      show own_G p e below s _ _ _ (T16.setTop (mkF m 70 #[.val (.ref a), .val (.ref b), .val (.ref c')] [(.int (2 : Int32)), (.ref a), (.ref c')]))
      have Vc17 := V_a
      obtain ⟨cl17, Ar17, q17, S17, M17, H17, G17⟩ := Vc17
      have hin17 := inb_of (j := (2 : Int32)) S17 ⟨(by decide), (by decide)⟩
      have hat17 := H17.at hin17 (v := (.int r2)) rfl
      refine own_go (X16.iaload hx (j := (2 : Int32)) (v := (.int r2)) (by rw [e16]; exact Ar17.1) (State.isArrayOf_alike hZ.alike Ar17.2.1) Ar17.2.2 hin17 hat17 (g := (mkF m 70 #[.val (.ref a), .val (.ref b), .val (.ref c')] [(.int (2 : Int32)), (.ref a), (.ref c')])) rfl rfl (hb hby d6_70)) ?_
      show own_G p e below s _ _ _ (T16.setTop (mkF m 71 #[.val (.ref a), .val (.ref b), .val (.ref c')] [(.int r2), (.ref c')]))
      obtain ⟨_, _, ⟨T18, L18, k18, n18⟩, -, X18, ⟨Lc18, hQ18, l18, y18, z18⟩, st18⟩ := Jvm.LawKit.callS X16 hx (y := (⟨"com/example/petri_net_analyzer/petrinetanalyzer/SparseVectorUnionPinLaw", "has", "([II)Z"⟩ : MethodName)) hown (mvT hZ (hw _ (List.mem_of_getElem? (i := 36) rfl))) (mvT hZ (hw _ (List.mem_of_getElem? (i := 37) rfl))) (mvT hZ (hw _ (List.mem_of_getElem? (i := 2) rfl))) (mvT hZ (hw _ (List.mem_of_getElem? (i := 38) rfl))) (by decide) (backOf (W := 0) (rmH l Z a0 hw [] c' kc lb r2 h0 n0 Z0 hlb V_c) hZ (hw _ (List.mem_of_getElem? (i := 38) rfl)) (hw _ (List.mem_of_getElem? (i := 2) rfl)) (by decide) (by decide)) (g := (mkF m 71 #[.val (.ref a), .val (.ref b), .val (.ref c')] [(.int r2), (.ref c')])) rfl (by rw [hml]; rfl) (argsL := [(.ref c'), (.int r2)]) (rest := []) (lenOf pd_2 rfl) rfl (by show 2 * 0 + _ ≤ _; exact Nat.le_of_eq rfl) (hb hby d6_71) (fun _ _ => ⟨rfl, e16, (by decide : 0 + 0 ≤ _), (by decide : 0 + 0 ≤ _)⟩)
      dsimp only [Pt.U, Pt.locs, Pt.cells, Pt.slots] at X18 l18 y18 z18 st18 hQ18
      subst l18 y18 z18
      obtain ⟨rfl, N18q, e18⟩ := hQ18
      have N18 := Fr.app N16 N18q
      refine own_go st18 ?_
      show own_G p e below s _ _ _ (T18.setTop (mkF m 74 #[.val (.ref a), .val (.ref b), .val (.ref c')] [(.int (own_has lb r2))]))
      rw [own_has_mem lb r2 mm2]
      show own_G p e below s _ _ _ (T18.setTop (mkF m 74 #[.val (.ref a), .val (.ref b), .val (.ref c')] [(.int (1 : Int32))]))
      refine own_if_eqN X18 hx (pc := 74) (hb hby d6_74) (by decide) ?_
      exact J13 _ _ (X18.more (by decide) (by decide)) N18 e18
  intro T13 lo13 X13 N13 e13
  show own_G p e below s _ _ _ (T13.setTop (mkF m 77 #[.val (.ref a), .val (.ref b), .val (.ref c')] []))
  refine own_go (fun _ kk_ => XS.aloadN X13.here hx rfl (hb hby d6_77) rfl rfl kk_) ?_
  show own_G p e below s _ _ _ (T13.setTop (mkF m 78 #[.val (.ref a), .val (.ref b), .val (.ref c')] [(.ref a)]))
  have Vc19 := V_a
  obtain ⟨cl19, Ar19, q19, S19, M19, H19, G19⟩ := Vc19
  refine own_go (X13.arraylength hx (cell := cl19) (by rw [e13]; exact Ar19.1) (State.isArrayOf_alike hZ.alike Ar19.2.1) (g := (mkF m 78 #[.val (.ref a), .val (.ref b), .val (.ref c')] [(.ref a)])) rfl (rest := []) rfl (hb hby d6_78)) ?_
  rw [len_of S19 M19]
  show own_G p e below s _ _ _ (T13.setTop (mkF m 79 #[.val (.ref a), .val (.ref b), .val (.ref c')] [(.int (3 : Int32))]))
  refine own_go (fun _ kk_ => XS.iconst X13.here hx rfl (hb hby d6_79) kk_) ?_
  show own_G p e below s _ _ _ (T13.setTop (mkF m 80 #[.val (.ref a), .val (.ref b), .val (.ref c')] [(.int (3 : Int32)), (.int (3 : Int32))]))
  refine own_ic_leY X13 hx (pc := 80) (pc' := 103) (hb hby d6_80) (by decide) (by decide) (by decide) ?_
  show own_G p e below s _ _ _ (T13.setTop (mkF m 103 #[.val (.ref a), .val (.ref b), .val (.ref c')] []))
  refine own_go (fun _ kk_ => XS.iconst X13.here hx rfl (hb hby d6_103) kk_) ?_
  show own_G p e below s _ _ _ (T13.setTop (mkF m 104 #[.val (.ref a), .val (.ref b), .val (.ref c')] [(.int (1 : Int32))]))
  refine own_go (fun _ kk_ => XS.goto X13.here hx rfl (pc0 := 104) (pc' := 108) rfl (hb hby d6_104) (by decide) (by decide) kk_) ?_
  show own_G p e below s _ _ _ (T13.setTop (mkF m 108 #[.val (.ref a), .val (.ref b), .val (.ref c')] [(.int (1 : Int32))]))
  exact own_retN (t := .boolean) (ht := by simp) X13 hx Bd.returns (BodyLoose.notSynchronized Bd) (hb hby d6_108) e13 ⟨rfl, N13, rfl⟩ (by decide) (by decide)
theorem d6_83 : decode method_7_code 83 = .ok (.aload_n 1, 1) := by decide +kernel
theorem d6_84 : decode method_7_code 84 = .ok (.aload_n 0, 1) := by decide +kernel
theorem d6_85 : decode method_7_code 85 = .ok (.iconst 3, 1) := by decide +kernel
theorem d6_86 : decode method_7_code 86 = .ok (.iaload, 1) := by decide +kernel
theorem d6_87 : decode method_7_code 87 = .ok (.invokestatic 40, 3) := by decide +kernel
theorem d6_90 : decode method_7_code 90 = .ok (.ifCond .ne 13, 3) := by decide +kernel
theorem d6_93 : decode method_7_code 93 = .ok (.aload_n 2, 1) := by decide +kernel
theorem d6_94 : decode method_7_code 94 = .ok (.aload_n 0, 1) := by decide +kernel
theorem d6_95 : decode method_7_code 95 = .ok (.iconst 3, 1) := by decide +kernel
theorem d6_96 : decode method_7_code 96 = .ok (.iaload, 1) := by decide +kernel
theorem d6_97 : decode method_7_code 97 = .ok (.invokestatic 40, 3) := by decide +kernel
theorem d6_100 : decode method_7_code 100 = .ok (.ifCond .eq 7, 3) := by decide +kernel
theorem ef_rmF4 (m : MethodId) (x0 : Addr) (x1 : Addr) (x2 : Addr) : entryFrame m #[(.ref x0), (.ref x1), (.ref x2)] 3 = mkF m 0 #[.val (.ref x0), .val (.ref x1), .val (.ref x2)] [] := by first | (simp [entryFrame, mkF, argsToLocals, Value.category]; done) | rfl
set_option maxRecDepth 65536 in
set_option maxHeartbeats 40000000 in
theorem rmF4 (l : Launch) (Z : State) (a0 : Array Value) (hw : ∀ d ∈ tables_1, d.before a0 Z = true) (ws : List Jvm.Cond) (a b c' : Addr) (ka kb kc : ClassId) (la lb : List Int32) (r0 r1 r2 r3 : Int32) (h0 : Heap) (n0 : Nat) (Z0 : n0 ≤ h0.size) (V_a : Arv Z h0 a ka .int (4 : Int32) [(.int r0), (.int r1), (.int r2), (.int r3)] (.int (0 : Int32))) (V_b : Arv Z h0 b kb .int (Int32.ofNat la.length) (la.map Value.int) (.int (0 : Int32))) (V_c : Arv Z h0 c' kc .int (Int32.ofNat lb.length) (lb.map Value.int) (.int (0 : Int32))) (hla : la.length ≤ 4) (hlb : lb.length ≤ 4) (m0 : r0 ∈ la ∨ r0 ∈ lb) (m1 : r1 ∈ la ∨ r1 ∈ lb) (m2 : r2 ∈ la ∨ r2 ∈ lb) (m3 : r3 ∈ la ∨ r3 ∈ lb) :
    MetFree l (⟨"com/example/petri_net_analyzer/petrinetanalyzer/SparseVectorUnionPinLaw", "fromEither", "([I[I[I)Z"⟩ : MethodName) (head1 (Jvm.Cond.code (⟨"com/example/petri_net_analyzer/petrinetanalyzer/SparseVectorUnionPinLaw", "fromEither", "([I[I[I)Z"⟩ : MethodName) method_7_code 3 (some .boolean) :: ws) ({ frames := 1, cells := 0, slots := 0, locals := 30 } : Room)) (fun as_ U => as_ = #[(.ref a), (.ref b), (.ref c')] ∧ Z.Warmed39 U.vm ∧ U.heap = h0) (fun _ _ _ _ _ => True) (fun _ U o U' => ∃ v L, o = .returned v ∧ (Q_rmF Z a b c' ka kb kc [r0, r1, r2, r3] la lb h0 n0) v U'.heap L ∧ FrameEnd U o U' L ({ frames := 1, cells := 0, slots := 0, locals := 30 } : Room).cells ({ frames := 1, cells := 0, slots := 0, locals := 30 } : Room).slots) := by
  refine MetFree.of_bodySF (plainFor_of_name pn_0) hisR ?_
  intro p e s m args below meth c s₁ Bd hml0 hP hK
  obtain ⟨rfl, hZ, hh⟩ := hP
  have hx := Bd.exec
  have hby := Bd.bytes
  have hml : c.maxLocals = 3 := hml0
  have hown : s.vm.findClass "com/example/petri_net_analyzer/petrinetanalyzer/SparseVectorUnionPinLaw" = some m.cls := findClass_of_methodNamed Bd.named
  have hnm := (name_of_methodNamed Bd.named Bd.method).1
  have X0 : Stand p l e ({ frames := 1, cells := 0, slots := 0, locals := 30 } : Room) s m #[(.ref a), (.ref b), (.ref c')] below meth c s₁ [] 0 0 := Stand.of_body Bd
  have e0 : s₁.heap = h0 := by rw [← hh, Bd.state]; rfl
  have N0 := Fr.nil n0
  show own_G p e below s (Q_rmF Z a b c' ka kb kc [r0, r1, r2, r3] la lb h0 n0) ({ frames := 1, cells := 0, slots := 0, locals := 30 } : Room).cells ({ frames := 1, cells := 0, slots := 0, locals := 30 } : Room).slots (s₁.setTop (entryFrame m #[(.ref a), (.ref b), (.ref c')] 3))
  rw [ef_rmF4 m a b c']
  suffices J1 : ∀ (T1 : State) (lo1 : List Loc), Stand p l e ({ frames := 1, cells := 0, slots := 0, locals := 30 } : Room) s m #[(.ref a), (.ref b), (.ref c')] below meth c T1 lo1 0 0 → Fr n0 lo1 → T1.heap = h0 → own_G p e below s (Q_rmF Z a b c' ka kb kc [r0, r1, r2, r3] la lb h0 n0) ({ frames := 1, cells := 0, slots := 0, locals := 30 } : Room).cells ({ frames := 1, cells := 0, slots := 0, locals := 30 } : Room).slots (T1.setTop (mkF m 25 #[.val (.ref a), .val (.ref b), .val (.ref c')] [])) by
    show own_G p e below s _ _ _ (s₁.setTop (mkF m 0 #[.val (.ref a), .val (.ref b), .val (.ref c')] []))
    refine own_go (fun _ kk_ => XS.aloadN X0.here hx rfl (hb hby d6_0) rfl rfl kk_) ?_
    show own_G p e below s _ _ _ (s₁.setTop (mkF m 1 #[.val (.ref a), .val (.ref b), .val (.ref c')] [(.ref a)]))
    have Vc2 := V_a
    obtain ⟨cl2, Ar2, q2, S2, M2, H2, G2⟩ := Vc2
    refine own_go (X0.arraylength hx (cell := cl2) (by rw [e0]; exact Ar2.1) (State.isArrayOf_alike hZ.alike Ar2.2.1) (g := (mkF m 1 #[.val (.ref a), .val (.ref b), .val (.ref c')] [(.ref a)])) rfl (rest := []) rfl (hb hby d6_1)) ?_
    rw [len_of S2 M2]
    show own_G p e below s _ _ _ (s₁.setTop (mkF m 2 #[.val (.ref a), .val (.ref b), .val (.ref c')] [(.int (4 : Int32))]))
    refine own_if_leN X0 hx (pc := 2) (hb hby d6_2) (by decide) ?_
    show own_G p e below s _ _ _ (s₁.setTop (mkF m 5 #[.val (.ref a), .val (.ref b), .val (.ref c')] []))
    refine own_go (fun _ kk_ => XS.aloadN X0.here hx rfl (hb hby d6_5) rfl rfl kk_) ?_
    show own_G p e below s _ _ _ (s₁.setTop (mkF m 6 #[.val (.ref a), .val (.ref b), .val (.ref c')] [(.ref b)]))
    refine own_go (fun _ kk_ => XS.aloadN X0.here hx rfl (hb hby d6_6) rfl rfl kk_) ?_
    show own_G p e below s _ _ _ (s₁.setTop (mkF m 7 #[.val (.ref a), .val (.ref b), .val (.ref c')] [(.ref a), (.ref b)]))
    refine own_go (fun _ kk_ => XS.iconst X0.here hx rfl (hb hby d6_7) kk_) ?_
    show own_G p e below s _ _ _ (s₁.setTop (mkF m 8 #[.val (.ref a), .val (.ref b), .val (.ref c')] [(.int (0 : Int32)), (.ref a), (.ref b)]))
    have Vc3 := V_a
    obtain ⟨cl3, Ar3, q3, S3, M3, H3, G3⟩ := Vc3
    have hin3 := inb_of (j := (0 : Int32)) S3 ⟨(by decide), (by decide)⟩
    have hat3 := H3.at hin3 (v := (.int r0)) rfl
    refine own_go (X0.iaload hx (j := (0 : Int32)) (v := (.int r0)) (by rw [e0]; exact Ar3.1) (State.isArrayOf_alike hZ.alike Ar3.2.1) Ar3.2.2 hin3 hat3 (g := (mkF m 8 #[.val (.ref a), .val (.ref b), .val (.ref c')] [(.int (0 : Int32)), (.ref a), (.ref b)])) rfl rfl (hb hby d6_8)) ?_
    show own_G p e below s _ _ _ (s₁.setTop (mkF m 9 #[.val (.ref a), .val (.ref b), .val (.ref c')] [(.int r0), (.ref b)]))
    obtain ⟨_, _, ⟨T4, L4, k4, n4⟩, -, X4, ⟨Lc4, hQ4, l4, y4, z4⟩, st4⟩ := Jvm.LawKit.callS X0 hx (y := (⟨"com/example/petri_net_analyzer/petrinetanalyzer/SparseVectorUnionPinLaw", "has", "([II)Z"⟩ : MethodName)) hown (mvT hZ (hw _ (List.mem_of_getElem? (i := 36) rfl))) (mvT hZ (hw _ (List.mem_of_getElem? (i := 37) rfl))) (mvT hZ (hw _ (List.mem_of_getElem? (i := 2) rfl))) (mvT hZ (hw _ (List.mem_of_getElem? (i := 38) rfl))) (by decide) (backOf (W := 0) (rmH l Z a0 hw [] b kb la r0 h0 n0 Z0 hla V_b) hZ (hw _ (List.mem_of_getElem? (i := 38) rfl)) (hw _ (List.mem_of_getElem? (i := 2) rfl)) (by decide) (by decide)) (g := (mkF m 9 #[.val (.ref a), .val (.ref b), .val (.ref c')] [(.int r0), (.ref b)])) rfl (by rw [hml]; rfl) (argsL := [(.ref b), (.int r0)]) (rest := []) (lenOf pd_2 rfl) rfl (by show 2 * 0 + _ ≤ _; exact Nat.le_of_eq rfl) (hb hby d6_9) (fun _ _ => ⟨rfl, e0, (by decide : 0 + 0 ≤ _), (by decide : 0 + 0 ≤ _)⟩)
    dsimp only [Pt.U, Pt.locs, Pt.cells, Pt.slots] at X4 l4 y4 z4 st4 hQ4
    subst l4 y4 z4
    obtain ⟨rfl, N4q, e4⟩ := hQ4
    have N4 := Fr.app N0 N4q
    refine own_go st4 ?_
    show own_G p e below s _ _ _ (T4.setTop (mkF m 12 #[.val (.ref a), .val (.ref b), .val (.ref c')] [(.int (own_has la r0))]))
    rcases own_has_01 la r0 with hh | ⟨hh, hn⟩
    · rw [hh]
      show own_G p e below s _ _ _ (T4.setTop (mkF m 12 #[.val (.ref a), .val (.ref b), .val (.ref c')] [(.int (1 : Int32))]))
      refine own_if_neY X4 hx (pc := 12) (pc' := 25) (hb hby d6_12) (by decide) (by decide) (by decide) ?_
      exact J1 _ _ (X4.more (by decide) (by decide)) N4 e4
    · rw [hh]
      have mm0 := m0.resolve_left hn
      show own_G p e below s _ _ _ (T4.setTop (mkF m 12 #[.val (.ref a), .val (.ref b), .val (.ref c')] [(.int (0 : Int32))]))
      refine own_if_neN X4 hx (pc := 12) (hb hby d6_12) (by decide) ?_
      show own_G p e below s _ _ _ (T4.setTop (mkF m 15 #[.val (.ref a), .val (.ref b), .val (.ref c')] []))
      refine own_go (fun _ kk_ => XS.aloadN X4.here hx rfl (hb hby d6_15) rfl rfl kk_) ?_
      show own_G p e below s _ _ _ (T4.setTop (mkF m 16 #[.val (.ref a), .val (.ref b), .val (.ref c')] [(.ref c')]))
      refine own_go (fun _ kk_ => XS.aloadN X4.here hx rfl (hb hby d6_16) rfl rfl kk_) ?_
      show own_G p e below s _ _ _ (T4.setTop (mkF m 17 #[.val (.ref a), .val (.ref b), .val (.ref c')] [(.ref a), (.ref c')]))
      refine own_go (fun _ kk_ => XS.iconst X4.here hx rfl (hb hby d6_17) kk_) ?_
      show own_G p e below s _ _ _ (T4.setTop (mkF m 18 #[.val (.ref a), .val (.ref b), .val (.ref c')] [(.int (0 : Int32)), (.ref a), (.ref c')]))
      have Vc5 := V_a
      obtain ⟨cl5, Ar5, q5, S5, M5, H5, G5⟩ := Vc5
      have hin5 := inb_of (j := (0 : Int32)) S5 ⟨(by decide), (by decide)⟩
      have hat5 := H5.at hin5 (v := (.int r0)) rfl
      refine own_go (X4.iaload hx (j := (0 : Int32)) (v := (.int r0)) (by rw [e4]; exact Ar5.1) (State.isArrayOf_alike hZ.alike Ar5.2.1) Ar5.2.2 hin5 hat5 (g := (mkF m 18 #[.val (.ref a), .val (.ref b), .val (.ref c')] [(.int (0 : Int32)), (.ref a), (.ref c')])) rfl rfl (hb hby d6_18)) ?_
      show own_G p e below s _ _ _ (T4.setTop (mkF m 19 #[.val (.ref a), .val (.ref b), .val (.ref c')] [(.int r0), (.ref c')]))
      obtain ⟨_, _, ⟨T6, L6, k6, n6⟩, -, X6, ⟨Lc6, hQ6, l6, y6, z6⟩, st6⟩ := Jvm.LawKit.callS X4 hx (y := (⟨"com/example/petri_net_analyzer/petrinetanalyzer/SparseVectorUnionPinLaw", "has", "([II)Z"⟩ : MethodName)) hown (mvT hZ (hw _ (List.mem_of_getElem? (i := 36) rfl))) (mvT hZ (hw _ (List.mem_of_getElem? (i := 37) rfl))) (mvT hZ (hw _ (List.mem_of_getElem? (i := 2) rfl))) (mvT hZ (hw _ (List.mem_of_getElem? (i := 38) rfl))) (by decide) (backOf (W := 0) (rmH l Z a0 hw [] c' kc lb r0 h0 n0 Z0 hlb V_c) hZ (hw _ (List.mem_of_getElem? (i := 38) rfl)) (hw _ (List.mem_of_getElem? (i := 2) rfl)) (by decide) (by decide)) (g := (mkF m 19 #[.val (.ref a), .val (.ref b), .val (.ref c')] [(.int r0), (.ref c')])) rfl (by rw [hml]; rfl) (argsL := [(.ref c'), (.int r0)]) (rest := []) (lenOf pd_2 rfl) rfl (by show 2 * 0 + _ ≤ _; exact Nat.le_of_eq rfl) (hb hby d6_19) (fun _ _ => ⟨rfl, e4, (by decide : 0 + 0 ≤ _), (by decide : 0 + 0 ≤ _)⟩)
      dsimp only [Pt.U, Pt.locs, Pt.cells, Pt.slots] at X6 l6 y6 z6 st6 hQ6
      subst l6 y6 z6
      obtain ⟨rfl, N6q, e6⟩ := hQ6
      have N6 := Fr.app N4 N6q
      refine own_go st6 ?_
      show own_G p e below s _ _ _ (T6.setTop (mkF m 22 #[.val (.ref a), .val (.ref b), .val (.ref c')] [(.int (own_has lb r0))]))
      rw [own_has_mem lb r0 mm0]
      show own_G p e below s _ _ _ (T6.setTop (mkF m 22 #[.val (.ref a), .val (.ref b), .val (.ref c')] [(.int (1 : Int32))]))
      refine own_if_eqN X6 hx (pc := 22) (hb hby d6_22) (by decide) ?_
      exact J1 _ _ (X6.more (by decide) (by decide)) N6 e6
  intro T1 lo1 X1 N1 e1
  suffices J7 : ∀ (T7 : State) (lo7 : List Loc), Stand p l e ({ frames := 1, cells := 0, slots := 0, locals := 30 } : Room) s m #[(.ref a), (.ref b), (.ref c')] below meth c T7 lo7 0 0 → Fr n0 lo7 → T7.heap = h0 → own_G p e below s (Q_rmF Z a b c' ka kb kc [r0, r1, r2, r3] la lb h0 n0) ({ frames := 1, cells := 0, slots := 0, locals := 30 } : Room).cells ({ frames := 1, cells := 0, slots := 0, locals := 30 } : Room).slots (T7.setTop (mkF m 51 #[.val (.ref a), .val (.ref b), .val (.ref c')] [])) by
    show own_G p e below s _ _ _ (T1.setTop (mkF m 25 #[.val (.ref a), .val (.ref b), .val (.ref c')] []))
    refine own_go (fun _ kk_ => XS.aloadN X1.here hx rfl (hb hby d6_25) rfl rfl kk_) ?_
    show own_G p e below s _ _ _ (T1.setTop (mkF m 26 #[.val (.ref a), .val (.ref b), .val (.ref c')] [(.ref a)]))
    have Vc8 := V_a
    obtain ⟨cl8, Ar8, q8, S8, M8, H8, G8⟩ := Vc8
    refine own_go (X1.arraylength hx (cell := cl8) (by rw [e1]; exact Ar8.1) (State.isArrayOf_alike hZ.alike Ar8.2.1) (g := (mkF m 26 #[.val (.ref a), .val (.ref b), .val (.ref c')] [(.ref a)])) rfl (rest := []) rfl (hb hby d6_26)) ?_
    rw [len_of S8 M8]
    show own_G p e below s _ _ _ (T1.setTop (mkF m 27 #[.val (.ref a), .val (.ref b), .val (.ref c')] [(.int (4 : Int32))]))
    refine own_go (fun _ kk_ => XS.iconst X1.here hx rfl (hb hby d6_27) kk_) ?_
    show own_G p e below s _ _ _ (T1.setTop (mkF m 28 #[.val (.ref a), .val (.ref b), .val (.ref c')] [(.int (1 : Int32)), (.int (4 : Int32))]))
    refine own_ic_leN X1 hx (pc := 28) (hb hby d6_28) (by decide) ?_
    show own_G p e below s _ _ _ (T1.setTop (mkF m 31 #[.val (.ref a), .val (.ref b), .val (.ref c')] []))
    refine own_go (fun _ kk_ => XS.aloadN X1.here hx rfl (hb hby d6_31) rfl rfl kk_) ?_
    show own_G p e below s _ _ _ (T1.setTop (mkF m 32 #[.val (.ref a), .val (.ref b), .val (.ref c')] [(.ref b)]))
    refine own_go (fun _ kk_ => XS.aloadN X1.here hx rfl (hb hby d6_32) rfl rfl kk_) ?_
    show own_G p e below s _ _ _ (T1.setTop (mkF m 33 #[.val (.ref a), .val (.ref b), .val (.ref c')] [(.ref a), (.ref b)]))
    refine own_go (fun _ kk_ => XS.iconst X1.here hx rfl (hb hby d6_33) kk_) ?_
    show own_G p e below s _ _ _ (T1.setTop (mkF m 34 #[.val (.ref a), .val (.ref b), .val (.ref c')] [(.int (1 : Int32)), (.ref a), (.ref b)]))
    have Vc9 := V_a
    obtain ⟨cl9, Ar9, q9, S9, M9, H9, G9⟩ := Vc9
    have hin9 := inb_of (j := (1 : Int32)) S9 ⟨(by decide), (by decide)⟩
    have hat9 := H9.at hin9 (v := (.int r1)) rfl
    refine own_go (X1.iaload hx (j := (1 : Int32)) (v := (.int r1)) (by rw [e1]; exact Ar9.1) (State.isArrayOf_alike hZ.alike Ar9.2.1) Ar9.2.2 hin9 hat9 (g := (mkF m 34 #[.val (.ref a), .val (.ref b), .val (.ref c')] [(.int (1 : Int32)), (.ref a), (.ref b)])) rfl rfl (hb hby d6_34)) ?_
    show own_G p e below s _ _ _ (T1.setTop (mkF m 35 #[.val (.ref a), .val (.ref b), .val (.ref c')] [(.int r1), (.ref b)]))
    obtain ⟨_, _, ⟨T10, L10, k10, n10⟩, -, X10, ⟨Lc10, hQ10, l10, y10, z10⟩, st10⟩ := Jvm.LawKit.callS X1 hx (y := (⟨"com/example/petri_net_analyzer/petrinetanalyzer/SparseVectorUnionPinLaw", "has", "([II)Z"⟩ : MethodName)) hown (mvT hZ (hw _ (List.mem_of_getElem? (i := 36) rfl))) (mvT hZ (hw _ (List.mem_of_getElem? (i := 37) rfl))) (mvT hZ (hw _ (List.mem_of_getElem? (i := 2) rfl))) (mvT hZ (hw _ (List.mem_of_getElem? (i := 38) rfl))) (by decide) (backOf (W := 0) (rmH l Z a0 hw [] b kb la r1 h0 n0 Z0 hla V_b) hZ (hw _ (List.mem_of_getElem? (i := 38) rfl)) (hw _ (List.mem_of_getElem? (i := 2) rfl)) (by decide) (by decide)) (g := (mkF m 35 #[.val (.ref a), .val (.ref b), .val (.ref c')] [(.int r1), (.ref b)])) rfl (by rw [hml]; rfl) (argsL := [(.ref b), (.int r1)]) (rest := []) (lenOf pd_2 rfl) rfl (by show 2 * 0 + _ ≤ _; exact Nat.le_of_eq rfl) (hb hby d6_35) (fun _ _ => ⟨rfl, e1, (by decide : 0 + 0 ≤ _), (by decide : 0 + 0 ≤ _)⟩)
    dsimp only [Pt.U, Pt.locs, Pt.cells, Pt.slots] at X10 l10 y10 z10 st10 hQ10
    subst l10 y10 z10
    obtain ⟨rfl, N10q, e10⟩ := hQ10
    have N10 := Fr.app N1 N10q
    refine own_go st10 ?_
    show own_G p e below s _ _ _ (T10.setTop (mkF m 38 #[.val (.ref a), .val (.ref b), .val (.ref c')] [(.int (own_has la r1))]))
    rcases own_has_01 la r1 with hh | ⟨hh, hn⟩
    · rw [hh]
      show own_G p e below s _ _ _ (T10.setTop (mkF m 38 #[.val (.ref a), .val (.ref b), .val (.ref c')] [(.int (1 : Int32))]))
      refine own_if_neY X10 hx (pc := 38) (pc' := 51) (hb hby d6_38) (by decide) (by decide) (by decide) ?_
      exact J7 _ _ (X10.more (by decide) (by decide)) N10 e10
    · rw [hh]
      have mm1 := m1.resolve_left hn
      show own_G p e below s _ _ _ (T10.setTop (mkF m 38 #[.val (.ref a), .val (.ref b), .val (.ref c')] [(.int (0 : Int32))]))
      refine own_if_neN X10 hx (pc := 38) (hb hby d6_38) (by decide) ?_
      show own_G p e below s _ _ _ (T10.setTop (mkF m 41 #[.val (.ref a), .val (.ref b), .val (.ref c')] []))
      refine own_go (fun _ kk_ => XS.aloadN X10.here hx rfl (hb hby d6_41) rfl rfl kk_) ?_
      show own_G p e below s _ _ _ (T10.setTop (mkF m 42 #[.val (.ref a), .val (.ref b), .val (.ref c')] [(.ref c')]))
      refine own_go (fun _ kk_ => XS.aloadN X10.here hx rfl (hb hby d6_42) rfl rfl kk_) ?_
      show own_G p e below s _ _ _ (T10.setTop (mkF m 43 #[.val (.ref a), .val (.ref b), .val (.ref c')] [(.ref a), (.ref c')]))
      refine own_go (fun _ kk_ => XS.iconst X10.here hx rfl (hb hby d6_43) kk_) ?_
      show own_G p e below s _ _ _ (T10.setTop (mkF m 44 #[.val (.ref a), .val (.ref b), .val (.ref c')] [(.int (1 : Int32)), (.ref a), (.ref c')]))
      have Vc11 := V_a
      obtain ⟨cl11, Ar11, q11, S11, M11, H11, G11⟩ := Vc11
      have hin11 := inb_of (j := (1 : Int32)) S11 ⟨(by decide), (by decide)⟩
      have hat11 := H11.at hin11 (v := (.int r1)) rfl
      refine own_go (X10.iaload hx (j := (1 : Int32)) (v := (.int r1)) (by rw [e10]; exact Ar11.1) (State.isArrayOf_alike hZ.alike Ar11.2.1) Ar11.2.2 hin11 hat11 (g := (mkF m 44 #[.val (.ref a), .val (.ref b), .val (.ref c')] [(.int (1 : Int32)), (.ref a), (.ref c')])) rfl rfl (hb hby d6_44)) ?_
      show own_G p e below s _ _ _ (T10.setTop (mkF m 45 #[.val (.ref a), .val (.ref b), .val (.ref c')] [(.int r1), (.ref c')]))
      obtain ⟨_, _, ⟨T12, L12, k12, n12⟩, -, X12, ⟨Lc12, hQ12, l12, y12, z12⟩, st12⟩ := Jvm.LawKit.callS X10 hx (y := (⟨"com/example/petri_net_analyzer/petrinetanalyzer/SparseVectorUnionPinLaw", "has", "([II)Z"⟩ : MethodName)) hown (mvT hZ (hw _ (List.mem_of_getElem? (i := 36) rfl))) (mvT hZ (hw _ (List.mem_of_getElem? (i := 37) rfl))) (mvT hZ (hw _ (List.mem_of_getElem? (i := 2) rfl))) (mvT hZ (hw _ (List.mem_of_getElem? (i := 38) rfl))) (by decide) (backOf (W := 0) (rmH l Z a0 hw [] c' kc lb r1 h0 n0 Z0 hlb V_c) hZ (hw _ (List.mem_of_getElem? (i := 38) rfl)) (hw _ (List.mem_of_getElem? (i := 2) rfl)) (by decide) (by decide)) (g := (mkF m 45 #[.val (.ref a), .val (.ref b), .val (.ref c')] [(.int r1), (.ref c')])) rfl (by rw [hml]; rfl) (argsL := [(.ref c'), (.int r1)]) (rest := []) (lenOf pd_2 rfl) rfl (by show 2 * 0 + _ ≤ _; exact Nat.le_of_eq rfl) (hb hby d6_45) (fun _ _ => ⟨rfl, e10, (by decide : 0 + 0 ≤ _), (by decide : 0 + 0 ≤ _)⟩)
      dsimp only [Pt.U, Pt.locs, Pt.cells, Pt.slots] at X12 l12 y12 z12 st12 hQ12
      subst l12 y12 z12
      obtain ⟨rfl, N12q, e12⟩ := hQ12
      have N12 := Fr.app N10 N12q
      refine own_go st12 ?_
      show own_G p e below s _ _ _ (T12.setTop (mkF m 48 #[.val (.ref a), .val (.ref b), .val (.ref c')] [(.int (own_has lb r1))]))
      rw [own_has_mem lb r1 mm1]
      show own_G p e below s _ _ _ (T12.setTop (mkF m 48 #[.val (.ref a), .val (.ref b), .val (.ref c')] [(.int (1 : Int32))]))
      refine own_if_eqN X12 hx (pc := 48) (hb hby d6_48) (by decide) ?_
      exact J7 _ _ (X12.more (by decide) (by decide)) N12 e12
  intro T7 lo7 X7 N7 e7
  suffices J13 : ∀ (T13 : State) (lo13 : List Loc), Stand p l e ({ frames := 1, cells := 0, slots := 0, locals := 30 } : Room) s m #[(.ref a), (.ref b), (.ref c')] below meth c T13 lo13 0 0 → Fr n0 lo13 → T13.heap = h0 → own_G p e below s (Q_rmF Z a b c' ka kb kc [r0, r1, r2, r3] la lb h0 n0) ({ frames := 1, cells := 0, slots := 0, locals := 30 } : Room).cells ({ frames := 1, cells := 0, slots := 0, locals := 30 } : Room).slots (T13.setTop (mkF m 77 #[.val (.ref a), .val (.ref b), .val (.ref c')] [])) by
    show own_G p e below s _ _ _ (T7.setTop (mkF m 51 #[.val (.ref a), .val (.ref b), .val (.ref c')] []))
    refine own_go (fun _ kk_ => XS.aloadN X7.here hx rfl (hb hby d6_51) rfl rfl kk_) ?_
    show own_G p e below s _ _ _ (T7.setTop (mkF m 52 #[.val (.ref a), .val (.ref b), .val (.ref c')] [(.ref a)]))
    have Vc14 := V_a
    obtain ⟨cl14, Ar14, q14, S14, M14, H14, G14⟩ := Vc14
    refine own_go (X7.arraylength hx (cell := cl14) (by rw [e7]; exact Ar14.1) (State.isArrayOf_alike hZ.alike Ar14.2.1) (g := (mkF m 52 #[.val (.ref a), .val (.ref b), .val (.ref c')] [(.ref a)])) rfl (rest := []) rfl (hb hby d6_52)) ?_
    rw [len_of S14 M14]
    show own_G p e below s _ _ _ (T7.setTop (mkF m 53 #[.val (.ref a), .val (.ref b), .val (.ref c')] [(.int (4 : Int32))]))
    refine own_go (fun _ kk_ => XS.iconst X7.here hx rfl (hb hby d6_53) kk_) ?_
    show own_G p e below s _ _ _ (T7.setTop (mkF m 54 #[.val (.ref a), .val (.ref b), .val (.ref c')] [(.int (2 : Int32)), (.int (4 : Int32))]))
    refine own_ic_leN X7 hx (pc := 54) (hb hby d6_54) (by decide) ?_
    show own_G p e below s _ _ _ (T7.setTop (mkF m 57 #[.val (.ref a), .val (.ref b), .val (.ref c')] []))
    refine own_go (fun _ kk_ => XS.aloadN X7.here hx rfl (hb hby d6_57) rfl rfl kk_) ?_
    show own_G p e below s _ _ _ (T7.setTop (mkF m 58 #[.val (.ref a), .val (.ref b), .val (.ref c')] [(.ref b)]))
    refine own_go (fun _ kk_ => XS.aloadN X7.here hx rfl (hb hby d6_58) rfl rfl kk_) ?_
    show own_G p e below s _ _ _ (T7.setTop (mkF m 59 #[.val (.ref a), .val (.ref b), .val (.ref c')] [(.ref a), (.ref b)]))
    refine own_go (fun _ kk_ => XS.iconst X7.here hx rfl (hb hby d6_59) kk_) ?_
    show own_G p e below s _ _ _ (T7.setTop (mkF m 60 #[.val (.ref a), .val (.ref b), .val (.ref c')] [(.int (2 : Int32)), (.ref a), (.ref b)]))
    have Vc15 := V_a
    obtain ⟨cl15, Ar15, q15, S15, M15, H15, G15⟩ := Vc15
    have hin15 := inb_of (j := (2 : Int32)) S15 ⟨(by decide), (by decide)⟩
    have hat15 := H15.at hin15 (v := (.int r2)) rfl
    refine own_go (X7.iaload hx (j := (2 : Int32)) (v := (.int r2)) (by rw [e7]; exact Ar15.1) (State.isArrayOf_alike hZ.alike Ar15.2.1) Ar15.2.2 hin15 hat15 (g := (mkF m 60 #[.val (.ref a), .val (.ref b), .val (.ref c')] [(.int (2 : Int32)), (.ref a), (.ref b)])) rfl rfl (hb hby d6_60)) ?_
    show own_G p e below s _ _ _ (T7.setTop (mkF m 61 #[.val (.ref a), .val (.ref b), .val (.ref c')] [(.int r2), (.ref b)]))
    obtain ⟨_, _, ⟨T16, L16, k16, n16⟩, -, X16, ⟨Lc16, hQ16, l16, y16, z16⟩, st16⟩ := Jvm.LawKit.callS X7 hx (y := (⟨"com/example/petri_net_analyzer/petrinetanalyzer/SparseVectorUnionPinLaw", "has", "([II)Z"⟩ : MethodName)) hown (mvT hZ (hw _ (List.mem_of_getElem? (i := 36) rfl))) (mvT hZ (hw _ (List.mem_of_getElem? (i := 37) rfl))) (mvT hZ (hw _ (List.mem_of_getElem? (i := 2) rfl))) (mvT hZ (hw _ (List.mem_of_getElem? (i := 38) rfl))) (by decide) (backOf (W := 0) (rmH l Z a0 hw [] b kb la r2 h0 n0 Z0 hla V_b) hZ (hw _ (List.mem_of_getElem? (i := 38) rfl)) (hw _ (List.mem_of_getElem? (i := 2) rfl)) (by decide) (by decide)) (g := (mkF m 61 #[.val (.ref a), .val (.ref b), .val (.ref c')] [(.int r2), (.ref b)])) rfl (by rw [hml]; rfl) (argsL := [(.ref b), (.int r2)]) (rest := []) (lenOf pd_2 rfl) rfl (by show 2 * 0 + _ ≤ _; exact Nat.le_of_eq rfl) (hb hby d6_61) (fun _ _ => ⟨rfl, e7, (by decide : 0 + 0 ≤ _), (by decide : 0 + 0 ≤ _)⟩)
    dsimp only [Pt.U, Pt.locs, Pt.cells, Pt.slots] at X16 l16 y16 z16 st16 hQ16
    subst l16 y16 z16
    obtain ⟨rfl, N16q, e16⟩ := hQ16
    have N16 := Fr.app N7 N16q
    refine own_go st16 ?_
    show own_G p e below s _ _ _ (T16.setTop (mkF m 64 #[.val (.ref a), .val (.ref b), .val (.ref c')] [(.int (own_has la r2))]))
    rcases own_has_01 la r2 with hh | ⟨hh, hn⟩
    · rw [hh]
      show own_G p e below s _ _ _ (T16.setTop (mkF m 64 #[.val (.ref a), .val (.ref b), .val (.ref c')] [(.int (1 : Int32))]))
      refine own_if_neY X16 hx (pc := 64) (pc' := 77) (hb hby d6_64) (by decide) (by decide) (by decide) ?_
      exact J13 _ _ (X16.more (by decide) (by decide)) N16 e16
    · rw [hh]
      have mm2 := m2.resolve_left hn
      show own_G p e below s _ _ _ (T16.setTop (mkF m 64 #[.val (.ref a), .val (.ref b), .val (.ref c')] [(.int (0 : Int32))]))
      refine own_if_neN X16 hx (pc := 64) (hb hby d6_64) (by decide) ?_
      show own_G p e below s _ _ _ (T16.setTop (mkF m 67 #[.val (.ref a), .val (.ref b), .val (.ref c')] []))
      refine own_go (fun _ kk_ => XS.aloadN X16.here hx rfl (hb hby d6_67) rfl rfl kk_) ?_
      show own_G p e below s _ _ _ (T16.setTop (mkF m 68 #[.val (.ref a), .val (.ref b), .val (.ref c')] [(.ref c')]))
      refine own_go (fun _ kk_ => XS.aloadN X16.here hx rfl (hb hby d6_68) rfl rfl kk_) ?_
      show own_G p e below s _ _ _ (T16.setTop (mkF m 69 #[.val (.ref a), .val (.ref b), .val (.ref c')] [(.ref a), (.ref c')]))
      refine own_go (fun _ kk_ => XS.iconst X16.here hx rfl (hb hby d6_69) kk_) ?_
      show own_G p e below s _ _ _ (T16.setTop (mkF m 70 #[.val (.ref a), .val (.ref b), .val (.ref c')] [(.int (2 : Int32)), (.ref a), (.ref c')]))
      have Vc17 := V_a
      obtain ⟨cl17, Ar17, q17, S17, M17, H17, G17⟩ := Vc17
      have hin17 := inb_of (j := (2 : Int32)) S17 ⟨(by decide), (by decide)⟩
      have hat17 := H17.at hin17 (v := (.int r2)) rfl
      refine own_go (X16.iaload hx (j := (2 : Int32)) (v := (.int r2)) (by rw [e16]; exact Ar17.1) (State.isArrayOf_alike hZ.alike Ar17.2.1) Ar17.2.2 hin17 hat17 (g := (mkF m 70 #[.val (.ref a), .val (.ref b), .val (.ref c')] [(.int (2 : Int32)), (.ref a), (.ref c')])) rfl rfl (hb hby d6_70)) ?_
      show own_G p e below s _ _ _ (T16.setTop (mkF m 71 #[.val (.ref a), .val (.ref b), .val (.ref c')] [(.int r2), (.ref c')]))
      obtain ⟨_, _, ⟨T18, L18, k18, n18⟩, -, X18, ⟨Lc18, hQ18, l18, y18, z18⟩, st18⟩ := Jvm.LawKit.callS X16 hx (y := (⟨"com/example/petri_net_analyzer/petrinetanalyzer/SparseVectorUnionPinLaw", "has", "([II)Z"⟩ : MethodName)) hown (mvT hZ (hw _ (List.mem_of_getElem? (i := 36) rfl))) (mvT hZ (hw _ (List.mem_of_getElem? (i := 37) rfl))) (mvT hZ (hw _ (List.mem_of_getElem? (i := 2) rfl))) (mvT hZ (hw _ (List.mem_of_getElem? (i := 38) rfl))) (by decide) (backOf (W := 0) (rmH l Z a0 hw [] c' kc lb r2 h0 n0 Z0 hlb V_c) hZ (hw _ (List.mem_of_getElem? (i := 38) rfl)) (hw _ (List.mem_of_getElem? (i := 2) rfl)) (by decide) (by decide)) (g := (mkF m 71 #[.val (.ref a), .val (.ref b), .val (.ref c')] [(.int r2), (.ref c')])) rfl (by rw [hml]; rfl) (argsL := [(.ref c'), (.int r2)]) (rest := []) (lenOf pd_2 rfl) rfl (by show 2 * 0 + _ ≤ _; exact Nat.le_of_eq rfl) (hb hby d6_71) (fun _ _ => ⟨rfl, e16, (by decide : 0 + 0 ≤ _), (by decide : 0 + 0 ≤ _)⟩)
      dsimp only [Pt.U, Pt.locs, Pt.cells, Pt.slots] at X18 l18 y18 z18 st18 hQ18
      subst l18 y18 z18
      obtain ⟨rfl, N18q, e18⟩ := hQ18
      have N18 := Fr.app N16 N18q
      refine own_go st18 ?_
      show own_G p e below s _ _ _ (T18.setTop (mkF m 74 #[.val (.ref a), .val (.ref b), .val (.ref c')] [(.int (own_has lb r2))]))
      rw [own_has_mem lb r2 mm2]
      show own_G p e below s _ _ _ (T18.setTop (mkF m 74 #[.val (.ref a), .val (.ref b), .val (.ref c')] [(.int (1 : Int32))]))
      refine own_if_eqN X18 hx (pc := 74) (hb hby d6_74) (by decide) ?_
      exact J13 _ _ (X18.more (by decide) (by decide)) N18 e18
  intro T13 lo13 X13 N13 e13
  suffices J19 : ∀ (T19 : State) (lo19 : List Loc), Stand p l e ({ frames := 1, cells := 0, slots := 0, locals := 30 } : Room) s m #[(.ref a), (.ref b), (.ref c')] below meth c T19 lo19 0 0 → Fr n0 lo19 → T19.heap = h0 → own_G p e below s (Q_rmF Z a b c' ka kb kc [r0, r1, r2, r3] la lb h0 n0) ({ frames := 1, cells := 0, slots := 0, locals := 30 } : Room).cells ({ frames := 1, cells := 0, slots := 0, locals := 30 } : Room).slots (T19.setTop (mkF m 103 #[.val (.ref a), .val (.ref b), .val (.ref c')] [])) by
    show own_G p e below s _ _ _ (T13.setTop (mkF m 77 #[.val (.ref a), .val (.ref b), .val (.ref c')] []))
    refine own_go (fun _ kk_ => XS.aloadN X13.here hx rfl (hb hby d6_77) rfl rfl kk_) ?_
    show own_G p e below s _ _ _ (T13.setTop (mkF m 78 #[.val (.ref a), .val (.ref b), .val (.ref c')] [(.ref a)]))
    have Vc20 := V_a
    obtain ⟨cl20, Ar20, q20, S20, M20, H20, G20⟩ := Vc20
    refine own_go (X13.arraylength hx (cell := cl20) (by rw [e13]; exact Ar20.1) (State.isArrayOf_alike hZ.alike Ar20.2.1) (g := (mkF m 78 #[.val (.ref a), .val (.ref b), .val (.ref c')] [(.ref a)])) rfl (rest := []) rfl (hb hby d6_78)) ?_
    rw [len_of S20 M20]
    show own_G p e below s _ _ _ (T13.setTop (mkF m 79 #[.val (.ref a), .val (.ref b), .val (.ref c')] [(.int (4 : Int32))]))
    refine own_go (fun _ kk_ => XS.iconst X13.here hx rfl (hb hby d6_79) kk_) ?_
    show own_G p e below s _ _ _ (T13.setTop (mkF m 80 #[.val (.ref a), .val (.ref b), .val (.ref c')] [(.int (3 : Int32)), (.int (4 : Int32))]))
    refine own_ic_leN X13 hx (pc := 80) (hb hby d6_80) (by decide) ?_
    show own_G p e below s _ _ _ (T13.setTop (mkF m 83 #[.val (.ref a), .val (.ref b), .val (.ref c')] []))
    refine own_go (fun _ kk_ => XS.aloadN X13.here hx rfl (hb hby d6_83) rfl rfl kk_) ?_
    show own_G p e below s _ _ _ (T13.setTop (mkF m 84 #[.val (.ref a), .val (.ref b), .val (.ref c')] [(.ref b)]))
    refine own_go (fun _ kk_ => XS.aloadN X13.here hx rfl (hb hby d6_84) rfl rfl kk_) ?_
    show own_G p e below s _ _ _ (T13.setTop (mkF m 85 #[.val (.ref a), .val (.ref b), .val (.ref c')] [(.ref a), (.ref b)]))
    refine own_go (fun _ kk_ => XS.iconst X13.here hx rfl (hb hby d6_85) kk_) ?_
    show own_G p e below s _ _ _ (T13.setTop (mkF m 86 #[.val (.ref a), .val (.ref b), .val (.ref c')] [(.int (3 : Int32)), (.ref a), (.ref b)]))
    have Vc21 := V_a
    obtain ⟨cl21, Ar21, q21, S21, M21, H21, G21⟩ := Vc21
    have hin21 := inb_of (j := (3 : Int32)) S21 ⟨(by decide), (by decide)⟩
    have hat21 := H21.at hin21 (v := (.int r3)) rfl
    refine own_go (X13.iaload hx (j := (3 : Int32)) (v := (.int r3)) (by rw [e13]; exact Ar21.1) (State.isArrayOf_alike hZ.alike Ar21.2.1) Ar21.2.2 hin21 hat21 (g := (mkF m 86 #[.val (.ref a), .val (.ref b), .val (.ref c')] [(.int (3 : Int32)), (.ref a), (.ref b)])) rfl rfl (hb hby d6_86)) ?_
    show own_G p e below s _ _ _ (T13.setTop (mkF m 87 #[.val (.ref a), .val (.ref b), .val (.ref c')] [(.int r3), (.ref b)]))
    obtain ⟨_, _, ⟨T22, L22, k22, n22⟩, -, X22, ⟨Lc22, hQ22, l22, y22, z22⟩, st22⟩ := Jvm.LawKit.callS X13 hx (y := (⟨"com/example/petri_net_analyzer/petrinetanalyzer/SparseVectorUnionPinLaw", "has", "([II)Z"⟩ : MethodName)) hown (mvT hZ (hw _ (List.mem_of_getElem? (i := 36) rfl))) (mvT hZ (hw _ (List.mem_of_getElem? (i := 37) rfl))) (mvT hZ (hw _ (List.mem_of_getElem? (i := 2) rfl))) (mvT hZ (hw _ (List.mem_of_getElem? (i := 38) rfl))) (by decide) (backOf (W := 0) (rmH l Z a0 hw [] b kb la r3 h0 n0 Z0 hla V_b) hZ (hw _ (List.mem_of_getElem? (i := 38) rfl)) (hw _ (List.mem_of_getElem? (i := 2) rfl)) (by decide) (by decide)) (g := (mkF m 87 #[.val (.ref a), .val (.ref b), .val (.ref c')] [(.int r3), (.ref b)])) rfl (by rw [hml]; rfl) (argsL := [(.ref b), (.int r3)]) (rest := []) (lenOf pd_2 rfl) rfl (by show 2 * 0 + _ ≤ _; exact Nat.le_of_eq rfl) (hb hby d6_87) (fun _ _ => ⟨rfl, e13, (by decide : 0 + 0 ≤ _), (by decide : 0 + 0 ≤ _)⟩)
    dsimp only [Pt.U, Pt.locs, Pt.cells, Pt.slots] at X22 l22 y22 z22 st22 hQ22
    subst l22 y22 z22
    obtain ⟨rfl, N22q, e22⟩ := hQ22
    have N22 := Fr.app N13 N22q
    refine own_go st22 ?_
    show own_G p e below s _ _ _ (T22.setTop (mkF m 90 #[.val (.ref a), .val (.ref b), .val (.ref c')] [(.int (own_has la r3))]))
    rcases own_has_01 la r3 with hh | ⟨hh, hn⟩
    · rw [hh]
      show own_G p e below s _ _ _ (T22.setTop (mkF m 90 #[.val (.ref a), .val (.ref b), .val (.ref c')] [(.int (1 : Int32))]))
      refine own_if_neY X22 hx (pc := 90) (pc' := 103) (hb hby d6_90) (by decide) (by decide) (by decide) ?_
      exact J19 _ _ (X22.more (by decide) (by decide)) N22 e22
    · rw [hh]
      have mm3 := m3.resolve_left hn
      show own_G p e below s _ _ _ (T22.setTop (mkF m 90 #[.val (.ref a), .val (.ref b), .val (.ref c')] [(.int (0 : Int32))]))
      refine own_if_neN X22 hx (pc := 90) (hb hby d6_90) (by decide) ?_
      show own_G p e below s _ _ _ (T22.setTop (mkF m 93 #[.val (.ref a), .val (.ref b), .val (.ref c')] []))
      refine own_go (fun _ kk_ => XS.aloadN X22.here hx rfl (hb hby d6_93) rfl rfl kk_) ?_
      show own_G p e below s _ _ _ (T22.setTop (mkF m 94 #[.val (.ref a), .val (.ref b), .val (.ref c')] [(.ref c')]))
      refine own_go (fun _ kk_ => XS.aloadN X22.here hx rfl (hb hby d6_94) rfl rfl kk_) ?_
      show own_G p e below s _ _ _ (T22.setTop (mkF m 95 #[.val (.ref a), .val (.ref b), .val (.ref c')] [(.ref a), (.ref c')]))
      refine own_go (fun _ kk_ => XS.iconst X22.here hx rfl (hb hby d6_95) kk_) ?_
      show own_G p e below s _ _ _ (T22.setTop (mkF m 96 #[.val (.ref a), .val (.ref b), .val (.ref c')] [(.int (3 : Int32)), (.ref a), (.ref c')]))
      have Vc23 := V_a
      obtain ⟨cl23, Ar23, q23, S23, M23, H23, G23⟩ := Vc23
      have hin23 := inb_of (j := (3 : Int32)) S23 ⟨(by decide), (by decide)⟩
      have hat23 := H23.at hin23 (v := (.int r3)) rfl
      refine own_go (X22.iaload hx (j := (3 : Int32)) (v := (.int r3)) (by rw [e22]; exact Ar23.1) (State.isArrayOf_alike hZ.alike Ar23.2.1) Ar23.2.2 hin23 hat23 (g := (mkF m 96 #[.val (.ref a), .val (.ref b), .val (.ref c')] [(.int (3 : Int32)), (.ref a), (.ref c')])) rfl rfl (hb hby d6_96)) ?_
      show own_G p e below s _ _ _ (T22.setTop (mkF m 97 #[.val (.ref a), .val (.ref b), .val (.ref c')] [(.int r3), (.ref c')]))
      obtain ⟨_, _, ⟨T24, L24, k24, n24⟩, -, X24, ⟨Lc24, hQ24, l24, y24, z24⟩, st24⟩ := Jvm.LawKit.callS X22 hx (y := (⟨"com/example/petri_net_analyzer/petrinetanalyzer/SparseVectorUnionPinLaw", "has", "([II)Z"⟩ : MethodName)) hown (mvT hZ (hw _ (List.mem_of_getElem? (i := 36) rfl))) (mvT hZ (hw _ (List.mem_of_getElem? (i := 37) rfl))) (mvT hZ (hw _ (List.mem_of_getElem? (i := 2) rfl))) (mvT hZ (hw _ (List.mem_of_getElem? (i := 38) rfl))) (by decide) (backOf (W := 0) (rmH l Z a0 hw [] c' kc lb r3 h0 n0 Z0 hlb V_c) hZ (hw _ (List.mem_of_getElem? (i := 38) rfl)) (hw _ (List.mem_of_getElem? (i := 2) rfl)) (by decide) (by decide)) (g := (mkF m 97 #[.val (.ref a), .val (.ref b), .val (.ref c')] [(.int r3), (.ref c')])) rfl (by rw [hml]; rfl) (argsL := [(.ref c'), (.int r3)]) (rest := []) (lenOf pd_2 rfl) rfl (by show 2 * 0 + _ ≤ _; exact Nat.le_of_eq rfl) (hb hby d6_97) (fun _ _ => ⟨rfl, e22, (by decide : 0 + 0 ≤ _), (by decide : 0 + 0 ≤ _)⟩)
      dsimp only [Pt.U, Pt.locs, Pt.cells, Pt.slots] at X24 l24 y24 z24 st24 hQ24
      subst l24 y24 z24
      obtain ⟨rfl, N24q, e24⟩ := hQ24
      have N24 := Fr.app N22 N24q
      refine own_go st24 ?_
      show own_G p e below s _ _ _ (T24.setTop (mkF m 100 #[.val (.ref a), .val (.ref b), .val (.ref c')] [(.int (own_has lb r3))]))
      rw [own_has_mem lb r3 mm3]
      show own_G p e below s _ _ _ (T24.setTop (mkF m 100 #[.val (.ref a), .val (.ref b), .val (.ref c')] [(.int (1 : Int32))]))
      refine own_if_eqN X24 hx (pc := 100) (hb hby d6_100) (by decide) ?_
      exact J19 _ _ (X24.more (by decide) (by decide)) N24 e24
  intro T19 lo19 X19 N19 e19
  show own_G p e below s _ _ _ (T19.setTop (mkF m 103 #[.val (.ref a), .val (.ref b), .val (.ref c')] []))
  refine own_go (fun _ kk_ => XS.iconst X19.here hx rfl (hb hby d6_103) kk_) ?_
  show own_G p e below s _ _ _ (T19.setTop (mkF m 104 #[.val (.ref a), .val (.ref b), .val (.ref c')] [(.int (1 : Int32))]))
  refine own_go (fun _ kk_ => XS.goto X19.here hx rfl (pc0 := 104) (pc' := 108) rfl (hb hby d6_104) (by decide) (by decide) kk_) ?_
  show own_G p e below s _ _ _ (T19.setTop (mkF m 108 #[.val (.ref a), .val (.ref b), .val (.ref c')] [(.int (1 : Int32))]))
  exact own_retN (t := .boolean) (ht := by simp) X19 hx Bd.returns (BodyLoose.notSynchronized Bd) (hb hby d6_108) e19 ⟨rfl, N19, rfl⟩ (by decide) (by decide)
set_option maxRecDepth 65536 in
set_option maxHeartbeats 40000000 in
theorem rmF (l : Launch) (Z : State) (a0 : Array Value) (hw : ∀ d ∈ tables_1, d.before a0 Z = true) (ws : List Jvm.Cond) (a b c' : Addr) (ka kb kc : ClassId) (lr la lb : List Int32) (h0 : Heap) (n0 : Nat) (Z0 : n0 ≤ h0.size) (hl : lr.length ≤ 4) (V_a : Arv Z h0 a ka .int (Int32.ofNat lr.length) (lr.map Value.int) (.int (0 : Int32))) (V_b : Arv Z h0 b kb .int (Int32.ofNat la.length) (la.map Value.int) (.int (0 : Int32))) (V_c : Arv Z h0 c' kc .int (Int32.ofNat lb.length) (lb.map Value.int) (.int (0 : Int32))) (hla : la.length ≤ 4) (hlb : lb.length ≤ 4) (hm : ∀ x ∈ lr, x ∈ la ∨ x ∈ lb) :
    MetFree l (⟨"com/example/petri_net_analyzer/petrinetanalyzer/SparseVectorUnionPinLaw", "fromEither", "([I[I[I)Z"⟩ : MethodName) (head1 (Jvm.Cond.code (⟨"com/example/petri_net_analyzer/petrinetanalyzer/SparseVectorUnionPinLaw", "fromEither", "([I[I[I)Z"⟩ : MethodName) method_7_code 3 (some .boolean) :: ws) ({ frames := 1, cells := 0, slots := 0, locals := 30 } : Room)) (fun as_ U => as_ = #[(.ref a), (.ref b), (.ref c')] ∧ Z.Warmed39 U.vm ∧ U.heap = h0) (fun _ _ _ _ _ => True) (fun _ U o U' => ∃ v L, o = .returned v ∧ (Q_rmF Z a b c' ka kb kc lr la lb h0 n0) v U'.heap L ∧ FrameEnd U o U' L ({ frames := 1, cells := 0, slots := 0, locals := 30 } : Room).cells ({ frames := 1, cells := 0, slots := 0, locals := 30 } : Room).slots) := by
  rcases lr with _ | ⟨r0, _ | ⟨r1, _ | ⟨r2, _ | ⟨r3, _ | ⟨r4, t_⟩⟩⟩⟩⟩
  · exact rmF0 l Z a0 hw ws a b c' ka kb kc la lb  h0 n0 Z0 V_a V_b V_c hla hlb 
  · exact rmF1 l Z a0 hw ws a b c' ka kb kc la lb r0 h0 n0 Z0 V_a V_b V_c hla hlb (hm r0 (by simp))
  · exact rmF2 l Z a0 hw ws a b c' ka kb kc la lb r0 r1 h0 n0 Z0 V_a V_b V_c hla hlb (hm r0 (by simp)) (hm r1 (by simp))
  · exact rmF3 l Z a0 hw ws a b c' ka kb kc la lb r0 r1 r2 h0 n0 Z0 V_a V_b V_c hla hlb (hm r0 (by simp)) (hm r1 (by simp)) (hm r2 (by simp))
  · exact rmF4 l Z a0 hw ws a b c' ka kb kc la lb r0 r1 r2 r3 h0 n0 Z0 V_a V_b V_c hla hlb (hm r0 (by simp)) (hm r1 (by simp)) (hm r2 (by simp)) (hm r3 (by simp))
  · exact absurd hl (by simp only [List.length_cons]; omega)
theorem pd_3 : parseMethodDescriptor "(III)[I" = some ⟨[.int, .int, .int], some (.array .int)⟩ := by decide +kernel
theorem pd_5 : parseMethodDescriptor "([I)Z" = some ⟨[(.array .int)], some .boolean⟩ := by decide +kernel
theorem pd_6 : parseMethodDescriptor "([I[I)Z" = some ⟨[(.array .int), (.array .int)], some .boolean⟩ := by decide +kernel
theorem pd_4 : parseMethodDescriptor "([I[I)[I" = some ⟨[(.array .int), (.array .int)], some (.array .int)⟩ := by decide +kernel
theorem pd_7 : parseMethodDescriptor "([I[I[I)Z" = some ⟨[(.array .int), (.array .int), (.array .int)], some .boolean⟩ := by decide +kernel
theorem ef_rm0 (m : MethodId) (x0 : Int32) (x1 : Int32) (x2 : Int32) (x3 : Int32) (x4 : Int32) : entryFrame m #[(.int x0), (.int x1), (.int x2), (.int x3), (.int x4)] maxLocals = mkF m 0 #[.val (.int x0), .val (.int x1), .val (.int x2), .val (.int x3), .val (.int x4), .unset, .unset, .unset] [] := by first | (simp [entryFrame, mkF, argsToLocals, Value.category, maxLocals]; done) | rfl
def Q_rm0 (Z : State) (x0 x1 x2 x3 x4 : Int32) (h0 : Heap) (n0 : Nat) : Option Value → Heap → List Loc → Prop := fun v h L => v = some (.int 1) ∧ Fr n0 L
set_option maxRecDepth 65536 in
set_option maxHeartbeats 40000000 in
theorem rm0 (l : Launch) (Z : State) (a0 : Array Value) (hw : ∀ d ∈ tables_1, d.before a0 Z = true) (ws : List Jvm.Cond) (x0 x1 x2 x3 x4 : Int32) (h0 : Heap) (n0 : Nat) (Z0 : n0 ≤ h0.size)  :
    MetFree l x (head1 (Jvm.Cond.code x code maxLocals ret :: ws) room_1) (fun as_ U => as_ = #[(.int x0), (.int x1), (.int x2), (.int x3), (.int x4)] ∧ Z.Warmed39 U.vm ∧ U.heap = h0) (fun _ _ _ _ _ => True) (fun _ U o U' => ∃ v L, o = .returned v ∧ (Q_rm0 Z x0 x1 x2 x3 x4 h0 n0) v U'.heap L ∧ FrameEnd U o U' L 16 128) := by
  refine MetFree.of_bodySF (plainFor_of_name pn_0) hisR ?_
  intro p e s m args below meth c s₁ Bd hml0 hP hK
  obtain ⟨rfl, hZ, hh⟩ := hP
  have hx := Bd.exec
  have hby := Bd.bytes
  have hml : c.maxLocals = 8 := hml0
  have hown : s.vm.findClass "com/example/petri_net_analyzer/petrinetanalyzer/SparseVectorUnionPinLaw" = some m.cls := findClass_of_methodNamed Bd.named
  have hnm := (name_of_methodNamed Bd.named Bd.method).1
  have X0 : Stand p l e room_1 s m #[(.int x0), (.int x1), (.int x2), (.int x3), (.int x4)] below meth c s₁ [] 0 0 := Stand.of_body Bd
  have e0 : s₁.heap = h0 := by rw [← hh, Bd.state]; rfl
  have N0 := Fr.nil n0
  show own_G p e below s (Q_rm0 Z x0 x1 x2 x3 x4 h0 n0) 16 128 (s₁.setTop (entryFrame m #[(.int x0), (.int x1), (.int x2), (.int x3), (.int x4)] maxLocals))
  rw [ef_rm0 m x0 x1 x2 x3 x4]
  show own_G p e below s _ _ _ (s₁.setTop (mkF m 0 #[.val (.int x0), .val (.int x1), .val (.int x2), .val (.int x3), .val (.int x4), .unset, .unset, .unset] []))
  refine own_go (fun _ kk_ => XS.iloadN X0.here hx rfl (hb hby at_0) rfl kk_) ?_
  show own_G p e below s _ _ _ (s₁.setTop (mkF m 1 #[.val (.int x0), .val (.int x1), .val (.int x2), .val (.int x3), .val (.int x4), .unset, .unset, .unset] [(.int x0)]))
  refine own_go (fun _ kk_ => XS.iloadN X0.here hx rfl (hb hby at_1) rfl kk_) ?_
  show own_G p e below s _ _ _ (s₁.setTop (mkF m 2 #[.val (.int x0), .val (.int x1), .val (.int x2), .val (.int x3), .val (.int x4), .unset, .unset, .unset] [(.int x1), (.int x0)]))
  refine own_go (fun _ kk_ => XS.iload X0.here hx rfl (hb hby at_2) rfl kk_) ?_
  show own_G p e below s _ _ _ (s₁.setTop (mkF m 4 #[.val (.int x0), .val (.int x1), .val (.int x2), .val (.int x3), .val (.int x4), .unset, .unset, .unset] [(.int x4), (.int x1), (.int x0)]))
  refine own_go (fun _ kk_ => XS.sipush X0.here hx rfl (hb hby at_4) kk_) ?_
  show own_G p e below s _ _ _ (s₁.setTop (mkF m 7 #[.val (.int x0), .val (.int x1), .val (.int x2), .val (.int x3), .val (.int x4), .unset, .unset, .unset] [(.int (255 : Int32)), (.int x4), (.int x1), (.int x0)]))
  refine own_go (fun _ kk_ => XS.iand X0.here hx rfl (hb hby at_7) rfl kk_) ?_
  show own_G p e below s _ _ _ (s₁.setTop (mkF m 8 #[.val (.int x0), .val (.int x1), .val (.int x2), .val (.int x3), .val (.int x4), .unset, .unset, .unset] [(.int (x4 &&& (255 : Int32))), (.int x1), (.int x0)]))
  refine own_go (fun _ kk_ => XS.iconst X0.here hx rfl (hb hby at_8) kk_) ?_
  show own_G p e below s _ _ _ (s₁.setTop (mkF m 9 #[.val (.int x0), .val (.int x1), .val (.int x2), .val (.int x3), .val (.int x4), .unset, .unset, .unset] [(.int (3 : Int32)), (.int (x4 &&& (255 : Int32))), (.int x1), (.int x0)]))
  refine own_go (fun _ kk_ => iremM X0 hx rfl (hb hby at_9) rfl (by decide) kk_) ?_
  show own_G p e below s _ _ _ (s₁.setTop (mkF m 10 #[.val (.int x0), .val (.int x1), .val (.int x2), .val (.int x3), .val (.int x4), .unset, .unset, .unset] [(.int ((x4 &&& (255 : Int32)) % (3 : Int32))), (.int x1), (.int x0)]))
  obtain ⟨_, _, ⟨T1, L1, k1, n1⟩, -, X1, ⟨Lc1, hQ1, l1, y1, z1⟩, st1⟩ := Jvm.LawKit.callS X0 hx (y := (⟨"com/example/petri_net_analyzer/petrinetanalyzer/SparseVectorUnionPinLaw", "make", "(III)[I"⟩ : MethodName)) hown (mvT hZ (hw _ (List.mem_of_getElem? (i := 0) rfl))) (mvT hZ (hw _ (List.mem_of_getElem? (i := 1) rfl))) (mvT hZ (hw _ (List.mem_of_getElem? (i := 2) rfl))) (mvT hZ (hw _ (List.mem_of_getElem? (i := 3) rfl))) (by decide) (backOf (W := 0) (rmMk l Z a0 hw [] x0 x1 ((x4 &&& (255 : Int32)) % (3 : Int32)) h0 n0 Z0) hZ (hw _ (List.mem_of_getElem? (i := 3) rfl)) (hw _ (List.mem_of_getElem? (i := 2) rfl)) (by decide) (by decide)) (g := (mkF m 10 #[.val (.int x0), .val (.int x1), .val (.int x2), .val (.int x3), .val (.int x4), .unset, .unset, .unset] [(.int ((x4 &&& (255 : Int32)) % (3 : Int32))), (.int x1), (.int x0)])) rfl (by rw [hml]; rfl) (argsL := [(.int x0), (.int x1), (.int ((x4 &&& (255 : Int32)) % (3 : Int32)))]) (rest := []) (lenOf pd_3 rfl) rfl (by show 2 * 0 + _ ≤ _; exact Nat.le_of_eq rfl) (hb hby at_10) (fun _ _ => ⟨rfl, e0, (by decide : 0 + 1 ≤ _), (by decide : 0 + 2 ≤ _)⟩)
  dsimp only [Pt.U, Pt.locs, Pt.cells, Pt.slots] at X1 l1 y1 z1 st1 hQ1
  subst l1 y1 z1
  generalize e1 : T1.heap = h1 at hQ1
  obtain ⟨b1, kb1, lA, rfl, N1q, Z1, K1, ko1, V1, s1, l1⟩ := hQ1
  have N1 := Fr.app N0 N1q
  refine own_go st1 ?_
  show own_G p e below s _ _ _ (T1.setTop (mkF m 13 #[.val (.int x0), .val (.int x1), .val (.int x2), .val (.int x3), .val (.int x4), .unset, .unset, .unset] [(.ref b1)]))
  refine own_go (fun _ kk_ => XS.astore X1.here hx rfl (hb hby at_13) rfl rfl (l' := #[.val (.int x0), .val (.int x1), .val (.int x2), .val (.int x3), .val (.int x4), .val (.ref b1), .unset, .unset]) rfl kk_) ?_
  show own_G p e below s _ _ _ (T1.setTop (mkF m 15 #[.val (.int x0), .val (.int x1), .val (.int x2), .val (.int x3), .val (.int x4), .val (.ref b1), .unset, .unset] []))
  refine own_go (fun _ kk_ => XS.iloadN X1.here hx rfl (hb hby at_15) rfl kk_) ?_
  show own_G p e below s _ _ _ (T1.setTop (mkF m 16 #[.val (.int x0), .val (.int x1), .val (.int x2), .val (.int x3), .val (.int x4), .val (.ref b1), .unset, .unset] [(.int x2)]))
  refine own_go (fun _ kk_ => XS.iloadN X1.here hx rfl (hb hby at_16) rfl kk_) ?_
  show own_G p e below s _ _ _ (T1.setTop (mkF m 17 #[.val (.int x0), .val (.int x1), .val (.int x2), .val (.int x3), .val (.int x4), .val (.ref b1), .unset, .unset] [(.int x3), (.int x2)]))
  refine own_go (fun _ kk_ => XS.iload X1.here hx rfl (hb hby at_17) rfl kk_) ?_
  show own_G p e below s _ _ _ (T1.setTop (mkF m 19 #[.val (.int x0), .val (.int x1), .val (.int x2), .val (.int x3), .val (.int x4), .val (.ref b1), .unset, .unset] [(.int x4), (.int x3), (.int x2)]))
  refine own_go (fun _ kk_ => XS.bipush X1.here hx rfl (hb hby at_19) kk_) ?_
  show own_G p e below s _ _ _ (T1.setTop (mkF m 21 #[.val (.int x0), .val (.int x1), .val (.int x2), .val (.int x3), .val (.int x4), .val (.ref b1), .unset, .unset] [(.int (8 : Int32)), (.int x4), (.int x3), (.int x2)]))
  refine own_go (fun _ kk_ => XS.iushr X1.here hx rfl (hb hby at_21) rfl kk_) ?_
  show own_G p e below s _ _ _ (T1.setTop (mkF m 22 #[.val (.int x0), .val (.int x1), .val (.int x2), .val (.int x3), .val (.int x4), .val (.ref b1), .unset, .unset] [(.int ((x4.toUInt32 >>> ((8 : Int32) &&& 31).toUInt32).toInt32)), (.int x3), (.int x2)]))
  refine own_go (fun _ kk_ => XS.sipush X1.here hx rfl (hb hby at_22) kk_) ?_
  show own_G p e below s _ _ _ (T1.setTop (mkF m 25 #[.val (.int x0), .val (.int x1), .val (.int x2), .val (.int x3), .val (.int x4), .val (.ref b1), .unset, .unset] [(.int (255 : Int32)), (.int ((x4.toUInt32 >>> ((8 : Int32) &&& 31).toUInt32).toInt32)), (.int x3), (.int x2)]))
  refine own_go (fun _ kk_ => XS.iand X1.here hx rfl (hb hby at_25) rfl kk_) ?_
  show own_G p e below s _ _ _ (T1.setTop (mkF m 26 #[.val (.int x0), .val (.int x1), .val (.int x2), .val (.int x3), .val (.int x4), .val (.ref b1), .unset, .unset] [(.int (((x4.toUInt32 >>> ((8 : Int32) &&& 31).toUInt32).toInt32) &&& (255 : Int32))), (.int x3), (.int x2)]))
  refine own_go (fun _ kk_ => XS.iconst X1.here hx rfl (hb hby at_26) kk_) ?_
  show own_G p e below s _ _ _ (T1.setTop (mkF m 27 #[.val (.int x0), .val (.int x1), .val (.int x2), .val (.int x3), .val (.int x4), .val (.ref b1), .unset, .unset] [(.int (3 : Int32)), (.int (((x4.toUInt32 >>> ((8 : Int32) &&& 31).toUInt32).toInt32) &&& (255 : Int32))), (.int x3), (.int x2)]))
  refine own_go (fun _ kk_ => iremM X1 hx rfl (hb hby at_27) rfl (by decide) kk_) ?_
  show own_G p e below s _ _ _ (T1.setTop (mkF m 28 #[.val (.int x0), .val (.int x1), .val (.int x2), .val (.int x3), .val (.int x4), .val (.ref b1), .unset, .unset] [(.int ((((x4.toUInt32 >>> ((8 : Int32) &&& 31).toUInt32).toInt32) &&& (255 : Int32)) % (3 : Int32))), (.int x3), (.int x2)]))
  obtain ⟨_, _, ⟨T2, L2, k2, n2⟩, -, X2, ⟨Lc2, hQ2, l2, y2, z2⟩, st2⟩ := Jvm.LawKit.callS X1 hx (y := (⟨"com/example/petri_net_analyzer/petrinetanalyzer/SparseVectorUnionPinLaw", "make", "(III)[I"⟩ : MethodName)) hown (mvT hZ (hw _ (List.mem_of_getElem? (i := 0) rfl))) (mvT hZ (hw _ (List.mem_of_getElem? (i := 1) rfl))) (mvT hZ (hw _ (List.mem_of_getElem? (i := 2) rfl))) (mvT hZ (hw _ (List.mem_of_getElem? (i := 3) rfl))) (by decide) (backOf (W := 0) (rmMk l Z a0 hw [] x2 x3 ((((x4.toUInt32 >>> ((8 : Int32) &&& 31).toUInt32).toInt32) &&& (255 : Int32)) % (3 : Int32)) h1 n0 Z1) hZ (hw _ (List.mem_of_getElem? (i := 3) rfl)) (hw _ (List.mem_of_getElem? (i := 2) rfl)) (by decide) (by decide)) (g := (mkF m 28 #[.val (.int x0), .val (.int x1), .val (.int x2), .val (.int x3), .val (.int x4), .val (.ref b1), .unset, .unset] [(.int ((((x4.toUInt32 >>> ((8 : Int32) &&& 31).toUInt32).toInt32) &&& (255 : Int32)) % (3 : Int32))), (.int x3), (.int x2)])) rfl (by rw [hml]; rfl) (argsL := [(.int x2), (.int x3), (.int ((((x4.toUInt32 >>> ((8 : Int32) &&& 31).toUInt32).toInt32) &&& (255 : Int32)) % (3 : Int32)))]) (rest := []) (lenOf pd_3 rfl) rfl (by show 2 * 0 + _ ≤ _; exact Nat.le_of_eq rfl) (hb hby at_28) (fun _ _ => ⟨rfl, e1, (by decide : 1 + 1 ≤ _), (by decide : 2 + 2 ≤ _)⟩)
  dsimp only [Pt.U, Pt.locs, Pt.cells, Pt.slots] at X2 l2 y2 z2 st2 hQ2
  subst l2 y2 z2
  generalize e2 : T2.heap = h2 at hQ2
  obtain ⟨b2, kb2, lB, rfl, N2q, Z2, K2, ko2, V2, s2, l2⟩ := hQ2
  have N2 := Fr.app N1 N2q
  refine own_go st2 ?_
  have V2_A := V1.keep K2 nin0
  show own_G p e below s _ _ _ (T2.setTop (mkF m 31 #[.val (.int x0), .val (.int x1), .val (.int x2), .val (.int x3), .val (.int x4), .val (.ref b1), .unset, .unset] [(.ref b2)]))
  refine own_go (fun _ kk_ => XS.astore X2.here hx rfl (hb hby at_31) rfl rfl (l' := #[.val (.int x0), .val (.int x1), .val (.int x2), .val (.int x3), .val (.int x4), .val (.ref b1), .val (.ref b2), .unset]) rfl kk_) ?_
  show own_G p e below s _ _ _ (T2.setTop (mkF m 33 #[.val (.int x0), .val (.int x1), .val (.int x2), .val (.int x3), .val (.int x4), .val (.ref b1), .val (.ref b2), .unset] []))
  refine own_go (fun _ kk_ => XS.aload X2.here hx rfl (hb hby at_33) rfl rfl kk_) ?_
  show own_G p e below s _ _ _ (T2.setTop (mkF m 35 #[.val (.int x0), .val (.int x1), .val (.int x2), .val (.int x3), .val (.int x4), .val (.ref b1), .val (.ref b2), .unset] [(.ref b1)]))
  refine own_go (fun _ kk_ => XS.aload X2.here hx rfl (hb hby at_35) rfl rfl kk_) ?_
  show own_G p e below s _ _ _ (T2.setTop (mkF m 37 #[.val (.int x0), .val (.int x1), .val (.int x2), .val (.int x3), .val (.int x4), .val (.ref b1), .val (.ref b2), .unset] [(.ref b2), (.ref b1)]))
  obtain ⟨_, _, ⟨T3, L3, k3, n3⟩, -, X3, ⟨Lc3, hQ3, l3, y3, z3⟩, st3⟩ := Jvm.LawKit.callS X2 hx (y := (⟨"com/example/petri_net_analyzer/petrinetanalyzer/SparseVector", "union", "([I[I)[I"⟩ : MethodName)) hown (mvT hZ (hw _ (List.mem_of_getElem? (i := 5) rfl))) (mvT hZ (hw _ (List.mem_of_getElem? (i := 6) rfl))) (mvT hZ (hw _ (List.mem_of_getElem? (i := 7) rfl))) (mvT hZ (hw _ (List.mem_of_getElem? (i := 8) rfl))) (by decide) (backOf (W := 0) (rmU l Z a0 hw [] b1 b2 kb1 kb2 lA lB h2 n0 Z2 V2_A V2 l1 l2 s1 s2) hZ (hw _ (List.mem_of_getElem? (i := 8) rfl)) (hw _ (List.mem_of_getElem? (i := 7) rfl)) (by decide) (by decide)) (g := (mkF m 37 #[.val (.int x0), .val (.int x1), .val (.int x2), .val (.int x3), .val (.int x4), .val (.ref b1), .val (.ref b2), .unset] [(.ref b2), (.ref b1)])) rfl (by rw [hml]; rfl) (argsL := [(.ref b1), (.ref b2)]) (rest := []) (lenOf pd_4 rfl) rfl (by show 2 * 0 + _ ≤ _; exact Nat.le_of_eq rfl) (hb hby at_37) (fun _ _ => ⟨rfl, e2, (by decide : 2 + 2 ≤ _), (by decide : 4 + 8 ≤ _)⟩)
  dsimp only [Pt.U, Pt.locs, Pt.cells, Pt.slots] at X3 l3 y3 z3 st3 hQ3
  subst l3 y3 z3
  generalize e3 : T3.heap = h3 at hQ3
  obtain ⟨b3, kb3, lR, rfl, N3q, Z3, K3, V3, l3, s3, m3⟩ := hQ3
  have N3 := Fr.app N2 N3q
  refine own_go st3 ?_
  have V3_A := V2_A.keep K3 nin0
  have V3_B := V2.keep K3 nin0
  have hR4 : lR.length ≤ 4 := by have := l1; have := l2; have := l3; omega
  show own_G p e below s _ _ _ (T3.setTop (mkF m 40 #[.val (.int x0), .val (.int x1), .val (.int x2), .val (.int x3), .val (.int x4), .val (.ref b1), .val (.ref b2), .unset] [(.ref b3)]))
  refine own_go (fun _ kk_ => XS.astore X3.here hx rfl (hb hby at_40) rfl rfl (l' := #[.val (.int x0), .val (.int x1), .val (.int x2), .val (.int x3), .val (.int x4), .val (.ref b1), .val (.ref b2), .val (.ref b3)]) rfl kk_) ?_
  show own_G p e below s _ _ _ (T3.setTop (mkF m 42 #[.val (.int x0), .val (.int x1), .val (.int x2), .val (.int x3), .val (.int x4), .val (.ref b1), .val (.ref b2), .val (.ref b3)] []))
  refine own_go (fun _ kk_ => XS.aload X3.here hx rfl (hb hby at_42) rfl rfl kk_) ?_
  show own_G p e below s _ _ _ (T3.setTop (mkF m 44 #[.val (.int x0), .val (.int x1), .val (.int x2), .val (.int x3), .val (.int x4), .val (.ref b1), .val (.ref b2), .val (.ref b3)] [(.ref b3)]))
  refine own_go (fun _ kk_ => XS.ifnullNo X3.here hx rfl (hb hby at_44) rfl kk_) ?_
  show own_G p e below s _ _ _ (T3.setTop (mkF m 47 #[.val (.int x0), .val (.int x1), .val (.int x2), .val (.int x3), .val (.int x4), .val (.ref b1), .val (.ref b2), .val (.ref b3)] []))
  refine own_go (fun _ kk_ => XS.aload X3.here hx rfl (hb hby at_47) rfl rfl kk_) ?_
  show own_G p e below s _ _ _ (T3.setTop (mkF m 49 #[.val (.int x0), .val (.int x1), .val (.int x2), .val (.int x3), .val (.int x4), .val (.ref b1), .val (.ref b2), .val (.ref b3)] [(.ref b3)]))
  have Vc4 := V3
  obtain ⟨cl4, Ar4, q4, S4, M4, H4, G4⟩ := Vc4
  refine own_go (X3.arraylength hx (cell := cl4) (by rw [e3]; exact Ar4.1) (State.isArrayOf_alike hZ.alike Ar4.2.1) (g := (mkF m 49 #[.val (.int x0), .val (.int x1), .val (.int x2), .val (.int x3), .val (.int x4), .val (.ref b1), .val (.ref b2), .val (.ref b3)] [(.ref b3)])) rfl (rest := []) rfl (hb hby at_49)) ?_
  rw [len_of S4 M4]
  show own_G p e below s _ _ _ (T3.setTop (mkF m 50 #[.val (.int x0), .val (.int x1), .val (.int x2), .val (.int x3), .val (.int x4), .val (.ref b1), .val (.ref b2), .val (.ref b3)] [(.int (Int32.ofNat lR.length))]))
  refine own_go (fun _ kk_ => XS.aload X3.here hx rfl (hb hby at_50) rfl rfl kk_) ?_
  show own_G p e below s _ _ _ (T3.setTop (mkF m 52 #[.val (.int x0), .val (.int x1), .val (.int x2), .val (.int x3), .val (.int x4), .val (.ref b1), .val (.ref b2), .val (.ref b3)] [(.ref b1), (.int (Int32.ofNat lR.length))]))
  have Vc5 := V3_A
  obtain ⟨cl5, Ar5, q5, S5, M5, H5, G5⟩ := Vc5
  refine own_go (X3.arraylength hx (cell := cl5) (by rw [e3]; exact Ar5.1) (State.isArrayOf_alike hZ.alike Ar5.2.1) (g := (mkF m 52 #[.val (.int x0), .val (.int x1), .val (.int x2), .val (.int x3), .val (.int x4), .val (.ref b1), .val (.ref b2), .val (.ref b3)] [(.ref b1), (.int (Int32.ofNat lR.length))])) rfl (rest := [(.int (Int32.ofNat lR.length))]) rfl (hb hby at_52)) ?_
  rw [len_of S5 M5]
  show own_G p e below s _ _ _ (T3.setTop (mkF m 53 #[.val (.int x0), .val (.int x1), .val (.int x2), .val (.int x3), .val (.int x4), .val (.ref b1), .val (.ref b2), .val (.ref b3)] [(.int (Int32.ofNat lA.length)), (.int (Int32.ofNat lR.length))]))
  refine own_go (fun _ kk_ => XS.aload X3.here hx rfl (hb hby at_53) rfl rfl kk_) ?_
  show own_G p e below s _ _ _ (T3.setTop (mkF m 55 #[.val (.int x0), .val (.int x1), .val (.int x2), .val (.int x3), .val (.int x4), .val (.ref b1), .val (.ref b2), .val (.ref b3)] [(.ref b2), (.int (Int32.ofNat lA.length)), (.int (Int32.ofNat lR.length))]))
  have Vc6 := V3_B
  obtain ⟨cl6, Ar6, q6, S6, M6, H6, G6⟩ := Vc6
  refine own_go (X3.arraylength hx (cell := cl6) (by rw [e3]; exact Ar6.1) (State.isArrayOf_alike hZ.alike Ar6.2.1) (g := (mkF m 55 #[.val (.int x0), .val (.int x1), .val (.int x2), .val (.int x3), .val (.int x4), .val (.ref b1), .val (.ref b2), .val (.ref b3)] [(.ref b2), (.int (Int32.ofNat lA.length)), (.int (Int32.ofNat lR.length))])) rfl (rest := [(.int (Int32.ofNat lA.length)), (.int (Int32.ofNat lR.length))]) rfl (hb hby at_55)) ?_
  rw [len_of S6 M6]
  show own_G p e below s _ _ _ (T3.setTop (mkF m 56 #[.val (.int x0), .val (.int x1), .val (.int x2), .val (.int x3), .val (.int x4), .val (.ref b1), .val (.ref b2), .val (.ref b3)] [(.int (Int32.ofNat lB.length)), (.int (Int32.ofNat lA.length)), (.int (Int32.ofNat lR.length))]))
  refine own_go (fun _ kk_ => XS.iadd X3.here hx rfl (hb hby at_56) rfl kk_) ?_
  show own_G p e below s _ _ _ (T3.setTop (mkF m 57 #[.val (.int x0), .val (.int x1), .val (.int x2), .val (.int x3), .val (.int x4), .val (.ref b1), .val (.ref b2), .val (.ref b3)] [(.int ((Int32.ofNat lA.length) + (Int32.ofNat lB.length))), (.int (Int32.ofNat lR.length))]))
  refine own_ic_leY X3 hx (pc := 57) (pc' := 62) (hb hby at_57) (by decide) (by decide) (by have := l1; have := l2; have := l3; rw [own_sum]; exact fun q => absurd ((own_lt (by omega) (by omega)).mp q) (by omega)) ?_
  show own_G p e below s _ _ _ (T3.setTop (mkF m 62 #[.val (.int x0), .val (.int x1), .val (.int x2), .val (.int x3), .val (.int x4), .val (.ref b1), .val (.ref b2), .val (.ref b3)] []))
  refine own_go (fun _ kk_ => XS.aload X3.here hx rfl (hb hby at_62) rfl rfl kk_) ?_
  show own_G p e below s _ _ _ (T3.setTop (mkF m 64 #[.val (.int x0), .val (.int x1), .val (.int x2), .val (.int x3), .val (.int x4), .val (.ref b1), .val (.ref b2), .val (.ref b3)] [(.ref b3)]))
  obtain ⟨_, _, ⟨T7, L7, k7, n7⟩, -, X7, ⟨Lc7, hQ7, l7, y7, z7⟩, st7⟩ := Jvm.LawKit.callS X3 hx (y := (⟨"com/example/petri_net_analyzer/petrinetanalyzer/SparseVectorUnionPinLaw", "increasing", "([I)Z"⟩ : MethodName)) hown (mvT hZ (hw _ (List.mem_of_getElem? (i := 22) rfl))) (mvT hZ (hw _ (List.mem_of_getElem? (i := 23) rfl))) (mvT hZ (hw _ (List.mem_of_getElem? (i := 2) rfl))) (mvT hZ (hw _ (List.mem_of_getElem? (i := 24) rfl))) (by decide) (backOf (W := 0) (rmC l Z a0 hw [] b3 kb3 lR h3 n0 Z3 hR4 s3 V3) hZ (hw _ (List.mem_of_getElem? (i := 24) rfl)) (hw _ (List.mem_of_getElem? (i := 2) rfl)) (by decide) (by decide)) (g := (mkF m 64 #[.val (.int x0), .val (.int x1), .val (.int x2), .val (.int x3), .val (.int x4), .val (.ref b1), .val (.ref b2), .val (.ref b3)] [(.ref b3)])) rfl (by rw [hml]; rfl) (argsL := [(.ref b3)]) (rest := []) (lenOf pd_5 rfl) rfl (by show 2 * 0 + _ ≤ _; exact Nat.le_of_eq rfl) (hb hby at_64) (fun _ _ => ⟨rfl, e3, (by decide : 4 + 0 ≤ _), (by decide : 12 + 0 ≤ _)⟩)
  dsimp only [Pt.U, Pt.locs, Pt.cells, Pt.slots] at X7 l7 y7 z7 st7 hQ7
  subst l7 y7 z7
  obtain ⟨rfl, N7q, e7⟩ := hQ7
  have N7 := Fr.app N3 N7q
  refine own_go st7 ?_
  show own_G p e below s _ _ _ (T7.setTop (mkF m 67 #[.val (.int x0), .val (.int x1), .val (.int x2), .val (.int x3), .val (.int x4), .val (.ref b1), .val (.ref b2), .val (.ref b3)] [(.int (1 : Int32))]))
  refine own_if_eqN X7 hx (pc := 67) (hb hby at_67) (by decide) ?_
  show own_G p e below s _ _ _ (T7.setTop (mkF m 70 #[.val (.int x0), .val (.int x1), .val (.int x2), .val (.int x3), .val (.int x4), .val (.ref b1), .val (.ref b2), .val (.ref b3)] []))
  refine own_go (fun _ kk_ => XS.aload X7.here hx rfl (hb hby at_70) rfl rfl kk_) ?_
  show own_G p e below s _ _ _ (T7.setTop (mkF m 72 #[.val (.int x0), .val (.int x1), .val (.int x2), .val (.int x3), .val (.int x4), .val (.ref b1), .val (.ref b2), .val (.ref b3)] [(.ref b1)]))
  refine own_go (fun _ kk_ => XS.aload X7.here hx rfl (hb hby at_72) rfl rfl kk_) ?_
  show own_G p e below s _ _ _ (T7.setTop (mkF m 74 #[.val (.int x0), .val (.int x1), .val (.int x2), .val (.int x3), .val (.int x4), .val (.ref b1), .val (.ref b2), .val (.ref b3)] [(.ref b3), (.ref b1)]))
  obtain ⟨_, _, ⟨T8, L8, k8, n8⟩, -, X8, ⟨Lc8, hQ8, l8, y8, z8⟩, st8⟩ := Jvm.LawKit.callS X7 hx (y := (⟨"com/example/petri_net_analyzer/petrinetanalyzer/SparseVectorUnionPinLaw", "allIn", "([I[I)Z"⟩ : MethodName)) hown (mvT hZ (hw _ (List.mem_of_getElem? (i := 25) rfl))) (mvT hZ (hw _ (List.mem_of_getElem? (i := 26) rfl))) (mvT hZ (hw _ (List.mem_of_getElem? (i := 2) rfl))) (mvT hZ (hw _ (List.mem_of_getElem? (i := 27) rfl))) (by decide) (backOf (W := 0) (rmI l Z a0 hw [] b1 b3 kb1 kb3 lA lR h3 n0 Z3 l1 V3_A V3 hR4 (fun x hx => (m3 x).mpr (Or.inl hx))) hZ (hw _ (List.mem_of_getElem? (i := 27) rfl)) (hw _ (List.mem_of_getElem? (i := 2) rfl)) (by decide) (by decide)) (g := (mkF m 74 #[.val (.int x0), .val (.int x1), .val (.int x2), .val (.int x3), .val (.int x4), .val (.ref b1), .val (.ref b2), .val (.ref b3)] [(.ref b3), (.ref b1)])) rfl (by rw [hml]; rfl) (argsL := [(.ref b1), (.ref b3)]) (rest := []) (lenOf pd_6 rfl) rfl (by show 2 * 0 + _ ≤ _; exact Nat.le_of_eq rfl) (hb hby at_74) (fun _ _ => ⟨rfl, e7, (by decide : 4 + 0 ≤ _), (by decide : 12 + 0 ≤ _)⟩)
  dsimp only [Pt.U, Pt.locs, Pt.cells, Pt.slots] at X8 l8 y8 z8 st8 hQ8
  subst l8 y8 z8
  obtain ⟨rfl, N8q, e8⟩ := hQ8
  have N8 := Fr.app N7 N8q
  refine own_go st8 ?_
  show own_G p e below s _ _ _ (T8.setTop (mkF m 77 #[.val (.int x0), .val (.int x1), .val (.int x2), .val (.int x3), .val (.int x4), .val (.ref b1), .val (.ref b2), .val (.ref b3)] [(.int (1 : Int32))]))
  refine own_if_eqN X8 hx (pc := 77) (hb hby at_77) (by decide) ?_
  show own_G p e below s _ _ _ (T8.setTop (mkF m 80 #[.val (.int x0), .val (.int x1), .val (.int x2), .val (.int x3), .val (.int x4), .val (.ref b1), .val (.ref b2), .val (.ref b3)] []))
  refine own_go (fun _ kk_ => XS.aload X8.here hx rfl (hb hby at_80) rfl rfl kk_) ?_
  show own_G p e below s _ _ _ (T8.setTop (mkF m 82 #[.val (.int x0), .val (.int x1), .val (.int x2), .val (.int x3), .val (.int x4), .val (.ref b1), .val (.ref b2), .val (.ref b3)] [(.ref b2)]))
  refine own_go (fun _ kk_ => XS.aload X8.here hx rfl (hb hby at_82) rfl rfl kk_) ?_
  show own_G p e below s _ _ _ (T8.setTop (mkF m 84 #[.val (.int x0), .val (.int x1), .val (.int x2), .val (.int x3), .val (.int x4), .val (.ref b1), .val (.ref b2), .val (.ref b3)] [(.ref b3), (.ref b2)]))
  obtain ⟨_, _, ⟨T9, L9, k9, n9⟩, -, X9, ⟨Lc9, hQ9, l9, y9, z9⟩, st9⟩ := Jvm.LawKit.callS X8 hx (y := (⟨"com/example/petri_net_analyzer/petrinetanalyzer/SparseVectorUnionPinLaw", "allIn", "([I[I)Z"⟩ : MethodName)) hown (mvT hZ (hw _ (List.mem_of_getElem? (i := 25) rfl))) (mvT hZ (hw _ (List.mem_of_getElem? (i := 26) rfl))) (mvT hZ (hw _ (List.mem_of_getElem? (i := 2) rfl))) (mvT hZ (hw _ (List.mem_of_getElem? (i := 27) rfl))) (by decide) (backOf (W := 0) (rmI l Z a0 hw [] b2 b3 kb2 kb3 lB lR h3 n0 Z3 l2 V3_B V3 hR4 (fun x hx => (m3 x).mpr (Or.inr hx))) hZ (hw _ (List.mem_of_getElem? (i := 27) rfl)) (hw _ (List.mem_of_getElem? (i := 2) rfl)) (by decide) (by decide)) (g := (mkF m 84 #[.val (.int x0), .val (.int x1), .val (.int x2), .val (.int x3), .val (.int x4), .val (.ref b1), .val (.ref b2), .val (.ref b3)] [(.ref b3), (.ref b2)])) rfl (by rw [hml]; rfl) (argsL := [(.ref b2), (.ref b3)]) (rest := []) (lenOf pd_6 rfl) rfl (by show 2 * 0 + _ ≤ _; exact Nat.le_of_eq rfl) (hb hby at_84) (fun _ _ => ⟨rfl, e8, (by decide : 4 + 0 ≤ _), (by decide : 12 + 0 ≤ _)⟩)
  dsimp only [Pt.U, Pt.locs, Pt.cells, Pt.slots] at X9 l9 y9 z9 st9 hQ9
  subst l9 y9 z9
  obtain ⟨rfl, N9q, e9⟩ := hQ9
  have N9 := Fr.app N8 N9q
  refine own_go st9 ?_
  show own_G p e below s _ _ _ (T9.setTop (mkF m 87 #[.val (.int x0), .val (.int x1), .val (.int x2), .val (.int x3), .val (.int x4), .val (.ref b1), .val (.ref b2), .val (.ref b3)] [(.int (1 : Int32))]))
  refine own_if_eqN X9 hx (pc := 87) (hb hby at_87) (by decide) ?_
  show own_G p e below s _ _ _ (T9.setTop (mkF m 90 #[.val (.int x0), .val (.int x1), .val (.int x2), .val (.int x3), .val (.int x4), .val (.ref b1), .val (.ref b2), .val (.ref b3)] []))
  refine own_go (fun _ kk_ => XS.aload X9.here hx rfl (hb hby at_90) rfl rfl kk_) ?_
  show own_G p e below s _ _ _ (T9.setTop (mkF m 92 #[.val (.int x0), .val (.int x1), .val (.int x2), .val (.int x3), .val (.int x4), .val (.ref b1), .val (.ref b2), .val (.ref b3)] [(.ref b3)]))
  refine own_go (fun _ kk_ => XS.aload X9.here hx rfl (hb hby at_92) rfl rfl kk_) ?_
  show own_G p e below s _ _ _ (T9.setTop (mkF m 94 #[.val (.int x0), .val (.int x1), .val (.int x2), .val (.int x3), .val (.int x4), .val (.ref b1), .val (.ref b2), .val (.ref b3)] [(.ref b1), (.ref b3)]))
  refine own_go (fun _ kk_ => XS.aload X9.here hx rfl (hb hby at_94) rfl rfl kk_) ?_
  show own_G p e below s _ _ _ (T9.setTop (mkF m 96 #[.val (.int x0), .val (.int x1), .val (.int x2), .val (.int x3), .val (.int x4), .val (.ref b1), .val (.ref b2), .val (.ref b3)] [(.ref b2), (.ref b1), (.ref b3)]))
  obtain ⟨_, _, ⟨T10, L10, k10, n10⟩, -, X10, ⟨Lc10, hQ10, l10, y10, z10⟩, st10⟩ := Jvm.LawKit.callS X9 hx (y := (⟨"com/example/petri_net_analyzer/petrinetanalyzer/SparseVectorUnionPinLaw", "fromEither", "([I[I[I)Z"⟩ : MethodName)) hown (mvT hZ (hw _ (List.mem_of_getElem? (i := 28) rfl))) (mvT hZ (hw _ (List.mem_of_getElem? (i := 29) rfl))) (mvT hZ (hw _ (List.mem_of_getElem? (i := 2) rfl))) (mvT hZ (hw _ (List.mem_of_getElem? (i := 30) rfl))) (by decide) (backOf (W := 0) (rmF l Z a0 hw [] b3 b1 b2 kb3 kb1 kb2 lR lA lB h3 n0 Z3 hR4 V3 V3_A V3_B (by have := l1; omega) (by have := l2; omega) (fun x hx => (m3 x).mp hx)) hZ (hw _ (List.mem_of_getElem? (i := 30) rfl)) (hw _ (List.mem_of_getElem? (i := 2) rfl)) (by decide) (by decide)) (g := (mkF m 96 #[.val (.int x0), .val (.int x1), .val (.int x2), .val (.int x3), .val (.int x4), .val (.ref b1), .val (.ref b2), .val (.ref b3)] [(.ref b2), (.ref b1), (.ref b3)])) rfl (by rw [hml]; rfl) (argsL := [(.ref b3), (.ref b1), (.ref b2)]) (rest := []) (lenOf pd_7 rfl) rfl (by show 2 * 0 + _ ≤ _; exact Nat.le_of_eq rfl) (hb hby at_96) (fun _ _ => ⟨rfl, e9, (by decide : 4 + 0 ≤ _), (by decide : 12 + 0 ≤ _)⟩)
  dsimp only [Pt.U, Pt.locs, Pt.cells, Pt.slots] at X10 l10 y10 z10 st10 hQ10
  subst l10 y10 z10
  obtain ⟨rfl, N10q, e10⟩ := hQ10
  have N10 := Fr.app N9 N10q
  refine own_go st10 ?_
  show own_G p e below s _ _ _ (T10.setTop (mkF m 99 #[.val (.int x0), .val (.int x1), .val (.int x2), .val (.int x3), .val (.int x4), .val (.ref b1), .val (.ref b2), .val (.ref b3)] [(.int (1 : Int32))]))
  refine own_if_eqN X10 hx (pc := 99) (hb hby at_99) (by decide) ?_
  show own_G p e below s _ _ _ (T10.setTop (mkF m 102 #[.val (.int x0), .val (.int x1), .val (.int x2), .val (.int x3), .val (.int x4), .val (.ref b1), .val (.ref b2), .val (.ref b3)] []))
  refine own_go (fun _ kk_ => XS.iconst X10.here hx rfl (hb hby at_102) kk_) ?_
  show own_G p e below s _ _ _ (T10.setTop (mkF m 103 #[.val (.int x0), .val (.int x1), .val (.int x2), .val (.int x3), .val (.int x4), .val (.ref b1), .val (.ref b2), .val (.ref b3)] [(.int (1 : Int32))]))
  refine own_go (fun _ kk_ => XS.goto X10.here hx rfl (pc0 := 103) (pc' := 107) rfl (hb hby at_103) (by decide) (by decide) kk_) ?_
  show own_G p e below s _ _ _ (T10.setTop (mkF m 107 #[.val (.int x0), .val (.int x1), .val (.int x2), .val (.int x3), .val (.int x4), .val (.ref b1), .val (.ref b2), .val (.ref b3)] [(.int (1 : Int32))]))
  exact own_retN (t := .boolean) (ht := by simp) X10 hx Bd.returns (BodyLoose.notSynchronized Bd) (hb hby at_107) e10 ⟨rfl, N10⟩ (by decide) (by decide)
set_option maxRecDepth 65536 in
set_option maxHeartbeats 40000000 in
theorem comes_1 {Post : Tables → Env → Array Value → State → Outcome → State → Prop} (hpost : ∀ tb e args s v u, (limb_1_1.after args s (.returned v) u = true ∧ limb_1_2.after args s (.returned v) u = true ∧ True) → FrameEnd s (.returned v) u (Jvm.fieldLocs frame_1_writes args s ++ Jvm.arrayLocs frame_1_arrays args s ++ Jvm.staticLocs frame_1_statics s) 16 128 → Post tb e args s (.returned v) u) :
    ArmFor flags0 classFile x code maxLocals ret World_1 tables_1 room_1 Calls_1 rest_1 Pre_1 Post := by
  intro l hfl _ _ p e ha hc hk s m args below hf hA hF happ hP
  obtain ⟨hcalls, hrest, hpre⟩ := hP
  obtain ⟨-, -, -, hnamed, -, -, -, hat⟩ := (Spec.applies_iff hf).mp happ
  obtain ⟨hg, hn⟩ := and_e (Cond.before_iff.mp (show (Jvm.Cond.and given_1 narrow_1).before args s = true from hpre))
  obtain ⟨hct, hr0⟩ := and_e hg
  obtain ⟨hv0, hr1⟩ := and_e hr0
  obtain ⟨hv1, hr2⟩ := and_e hr1
  obtain ⟨hv2, hr3⟩ := and_e hr2
  obtain ⟨hv3, hr4⟩ := and_e hr3
  obtain ⟨w0, w1, w2, w3, w4, rfl⟩ : ∃ w0 w1 w2 w3 w4 : Value, args = #[w0, w1, w2, w3, w4] := by
    have hs : args.size = 5 := by simpa [Cond.value, given_1] using hct
    obtain ⟨L⟩ := args
    match L, hs with
    | [w0, w1, w2, w3, w4], _ => exact ⟨w0, w1, w2, w3, w4, rfl⟩
  have hw := fun d (hd : d ∈ tables_1) => atoms_spec (ws := Jvm.Cond.code x code maxLocals ret :: tables_1) hat d (List.mem_cons_of_mem _ hd)
  have hfit : Fit s := fun {y c} hc i hi => by
    obtain ⟨ha, rfl⟩ := Array.getElem?_eq_some_iff.mp hc
    have q := List.all_eq_true.mp ((Array.all_eq_true_iff_forall_mem.mp hF) _ (Array.getElem_mem ha)) i (List.mem_range.mpr hi)
    simpa [Array.getElem?_eq_getElem hi] using q
  obtain ⟨i0, ei0⟩ := is_v hv0
  obtain rfl : w0 = (.int i0) := Option.some.inj ei0
  obtain ⟨i1, ei1⟩ := is_v hv1
  obtain rfl : w1 = (.int i1) := Option.some.inj ei1
  obtain ⟨i2, ei2⟩ := is_v hv2
  obtain rfl : w2 = (.int i2) := Option.some.inj ei2
  obtain ⟨i3, ei3⟩ := is_v hv3
  obtain rfl : w3 = (.int i3) := Option.some.inj ei3
  obtain ⟨i4, ei4⟩ := is_v hr4
  obtain rfl : w4 = (.int i4) := Option.some.inj ei4
  obtain ⟨n, o, h1, h2, h3, _, L, rfl, ⟨rfl, N⟩, hq⟩ := rm0 l s _ hw tables_1 i0 i1 i2 i3 i4 s.heap s.heap.size (Nat.le_refl _)  p e ha hc hk s m _ below hf ((Spec.applies_iff_loose hf).mp happ).1 ⟨rfl, State.Warmed39.refl s, rfl⟩ trivial
  refine ⟨n, _, h1, h2, h3, hpost _ _ _ _ _ _ ⟨Cond.after_iff.mpr rfl, Cond.after_iff.mpr (eq_i res_at (Term.int_eval (1)) rfl), trivial⟩ ⟨hq.1, hq.2.1, (hq.2.2.sift fun y hy => Or.inr (N y hy)).mono (by decide) (by decide)⟩⟩
theorem main_1_1 : Claimed_1_1 := comes_1 fun _ _ _ _ _ _ h hF => ⟨h.1, hF⟩
theorem main_1_2 : Claimed_1_2 := comes_1 fun _ _ _ _ _ _ h hF => ⟨h.2.1, hF⟩
end Jvm.Pilot.@@N@@
namespace Jvm.Pilot.@@N@@
open Jvm Jvm.ClassFile Sem Op Lib Jvm.Free Jvm.Stand Jvm.Pilot.@@N@@.Jvm.D
/-! MADE BY PROGRAM (witnessworld.py) out of the Statement's table words and the real class files: 12 classes; the members and pool entries that the words name. The judged class is class 1, her method 1. -/
namespace start1
open Jvm.ClassFile
def u (s : String) : CpInfo := .utf8 (stringToUtf16 s)
/-- a pool by its gaps: so many unusable entries, then the entry; so many at the end -/
def gap : Nat → List CpInfo → List CpInfo
  | 0, r => r
  | n + 1, r => .unusable :: gap n r
def poolList (es : List (Nat × CpInfo)) (last : Nat) : List CpInfo := es.foldr (fun e r => gap e.1 (e.2 :: r)) (gap last [])
def pool (es : List (Nat × CpInfo)) (last : Nat) : Array CpInfo := ⟨poolList es last⟩
def fileOf (pool : Array CpInfo) (this : Nat) (attrs : Array Attribute := #[]) (ms : Array MethodInfo := #[]) (fl : Nat := 33) (sup : Nat := 0) (ifs : Array Nat := #[]) (fds : Array FieldInfo := #[]) : ClassFile where
  minorVersion := 0
  majorVersion := 65
  constantPool := pool
  accessFlags := fl
  thisClass := this
  superClass := sup
  interfaces := ifs
  fields := fds
  methods := ms
  attributes := attrs
def plain (name : String) (sup : Option ClassId) : Class where
  name := name
  kind := .ordinary
  loader := none
  accessFlags := 33
  super := sup
  interfaces := #[]
  cf := none
  fields := #[]
  methods := #[]
  instanceTypes := #[]
  staticTypes := #[]
  resolved := #[]
  callSites := []
  init := .initialized
  statics := none
  mirror := none

def pool0 : Array CpInfo := pool [(5, u "<init>"), (0, u "()V"), (1, .class_ 10), (1, u "java/lang/Object"), (85, u "clone"), (0, u "()Ljava/lang/Object;")] 26

def k0m0 : Method := { name := "<init>", desc := "()V", sig := { parameters := [], returnType := none }, accessFlags := 1, code := none }
def k0m1 : Method := { name := "clone", desc := "()Ljava/lang/Object;", sig := { parameters := [], returnType := some (.object "java/lang/Object") }, accessFlags := 260, code := none }
/-- java/lang/Object -/
def k0 : Class := { plain "java/lang/Object" none with
  accessFlags := 33
  interfaces := #[]
  cf := some (fileOf pool0 8 #[] #[{ accessFlags := 1, nameIndex := 5, descriptorIndex := 6, attributes := #[] }, { accessFlags := 260, nameIndex := 96, descriptorIndex := 97, attributes := #[] }] 33 0 #[] #[])
  fields := #[]
  methods := #[k0m0, k0m1]
  instanceTypes := #[]
  staticTypes := #[]
  resolved := Array.replicate 124 none
  statics := none }

def pool1 : Array CpInfo := pool [(2, .class_ 4), (1, u "java/lang/Object"), (0, u "<init>"), (0, u "()V"), (0, .methodref 8 9), (0, .class_ 10), (0, .nameAndType 11 12), (0, u "com/example/petri_net_analyzer/petrinetanalyzer/SparseVectorUnionPinLaw"), (0, u "make"), (0, u "(III)[I"), (0, .methodref 14 15), (0, .class_ 16), (0, .nameAndType 17 18), (0, u "com/example/petri_net_analyzer/petrinetanalyzer/SparseVector"), (0, u "union"), (0, u "([I[I)[I"), (0, .methodref 8 20), (0, .nameAndType 21 22), (0, u "increasing"), (0, u "([I)Z"), (0, .methodref 8 24), (0, .nameAndType 25 26), (0, u "allIn"), (0, u "([I[I)Z"), (0, .methodref 8 28), (0, .nameAndType 29 30), (0, u "fromEither"), (0, u "([I[I[I)Z"), (0, .methodref 32 33), (0, .class_ 34), (0, .nameAndType 35 36), (0, u "java/lang/Math"), (0, u "min"), (0, u "(II)I"), (0, .methodref 32 38), (0, .nameAndType 39 36), (0, u "max"), (0, .methodref 8 41), (0, .nameAndType 42 43), (0, u "has"), (0, u "([II)Z"), (2, u "law"), (0, u "(IIIII)Z")] 5

def k1m0 : Method := { name := "<init>", desc := "()V", sig := { parameters := [], returnType := none }, accessFlags := 1, code := none }
def k1c1 : Code := { maxStack := 4, maxLocals := 8, code := code, exceptionTable := #[], attributes := #[] }
def k1m1 : Method := { name := "law", desc := "(IIIII)Z", sig := { parameters := [.int, .int, .int, .int, .int], returnType := some .boolean }, accessFlags := 9, code := some k1c1 }
def k1c2 : Code := { maxStack := 5, maxLocals := 3, code := method_3_code, exceptionTable := #[], attributes := #[] }
def k1m2 : Method := { name := "make", desc := "(III)[I", sig := { parameters := [.int, .int, .int], returnType := some (.array .int) }, accessFlags := 10, code := some k1c2 }
def k1c3 : Code := { maxStack := 2, maxLocals := 2, code := method_4_code, exceptionTable := #[], attributes := #[] }
def k1m3 : Method := { name := "has", desc := "([II)Z", sig := { parameters := [(.array .int), .int], returnType := some .boolean }, accessFlags := 10, code := some k1c3 }
def k1c4 : Code := { maxStack := 3, maxLocals := 1, code := method_5_code, exceptionTable := #[], attributes := #[] }
def k1m4 : Method := { name := "increasing", desc := "([I)Z", sig := { parameters := [(.array .int)], returnType := some .boolean }, accessFlags := 10, code := some k1c4 }
def k1c5 : Code := { maxStack := 3, maxLocals := 2, code := method_6_code, exceptionTable := #[], attributes := #[] }
def k1m5 : Method := { name := "allIn", desc := "([I[I)Z", sig := { parameters := [(.array .int), (.array .int)], returnType := some .boolean }, accessFlags := 10, code := some k1c5 }
def k1c6 : Code := { maxStack := 3, maxLocals := 3, code := method_7_code, exceptionTable := #[], attributes := #[] }
def k1m6 : Method := { name := "fromEither", desc := "([I[I[I)Z", sig := { parameters := [(.array .int), (.array .int), (.array .int)], returnType := some .boolean }, accessFlags := 10, code := some k1c6 }
/-- com/example/petri_net_analyzer/petrinetanalyzer/SparseVectorUnionPinLaw -/
def k1 : Class := { plain "com/example/petri_net_analyzer/petrinetanalyzer/SparseVectorUnionPinLaw" (some 0) with
  accessFlags := 49
  interfaces := #[]
  cf := some (fileOf pool1 8 #[] #[{ accessFlags := 1, nameIndex := 5, descriptorIndex := 6, attributes := #[] }, { accessFlags := 9, nameIndex := 46, descriptorIndex := 47, attributes := #[] }, { accessFlags := 10, nameIndex := 11, descriptorIndex := 12, attributes := #[] }, { accessFlags := 10, nameIndex := 42, descriptorIndex := 43, attributes := #[] }, { accessFlags := 10, nameIndex := 21, descriptorIndex := 22, attributes := #[] }, { accessFlags := 10, nameIndex := 25, descriptorIndex := 26, attributes := #[] }, { accessFlags := 10, nameIndex := 29, descriptorIndex := 30, attributes := #[] }] 49 2 #[] #[])
  fields := #[]
  methods := #[k1m0, k1m1, k1m2, k1m3, k1m4, k1m5, k1m6]
  instanceTypes := #[]
  staticTypes := #[]
  resolved := Array.replicate 53 none
  statics := none }

def pool2 : Array CpInfo := pool [(2, .class_ 4), (1, u "java/lang/Object"), (3, .class_ 10), (1, u "com/example/petri_net_analyzer/petrinetanalyzer/SparseVector"), (0, u "indices"), (0, u "[I"), (2, u "longs"), (0, u "[J"), (2, u "bigs"), (0, u "[Ljava/math/BigInteger;"), (19, .class_ 42), (1, u "java/util/Arrays"), (2, .methodref 40 46), (0, .nameAndType 47 48), (0, u "copyOf"), (0, u "([II)[I"), (35, u "union"), (0, u "([I[I)[I"), (13, .class_ 101), (1, u "java/lang/Math"), (37, .integer 2147483647), (0, .methodref 99 141), (0, .nameAndType 142 143), (0, u "min"), (0, u "(II)I")] 24

def k2c0 : Code := { maxStack := 3, maxLocals := 9, code := prog_31_method_14_code, exceptionTable := #[], attributes := #[] }
def k2m0 : Method := { name := "union", desc := "([I[I)[I", sig := { parameters := [(.array .int), (.array .int)], returnType := some (.array .int) }, accessFlags := 8, code := some k2c0 }
/-- com/example/petri_net_analyzer/petrinetanalyzer/SparseVector -/
def k2 : Class := { plain "com/example/petri_net_analyzer/petrinetanalyzer/SparseVector" (some 0) with
  accessFlags := 48
  interfaces := #[]
  cf := some (fileOf pool2 8 #[] #[{ accessFlags := 8, nameIndex := 84, descriptorIndex := 85, attributes := #[] }] 48 2 #[] #[{ accessFlags := 18, nameIndex := 11, descriptorIndex := 12, attributes := #[] }, { accessFlags := 18, nameIndex := 15, descriptorIndex := 16, attributes := #[] }, { accessFlags := 18, nameIndex := 19, descriptorIndex := 20, attributes := #[] }])
  fields := #[{ name := "indices", type := (.array .int), accessFlags := 18, slot := 0, constantValue := 0 }, { name := "longs", type := (.array .long), accessFlags := 18, slot := 1, constantValue := 0 }, { name := "bigs", type := (.array (.object "java/math/BigInteger")), accessFlags := 18, slot := 2, constantValue := 0 }]
  methods := #[k2m0]
  instanceTypes := #[(.array .int), (.array .long), (.array (.object "java/math/BigInteger"))]
  staticTypes := #[]
  resolved := Array.replicate 168 none
  statics := none }

def pool3 : Array CpInfo := pool [(2, .class_ 4), (1, u "java/lang/Object"), (0, u "<init>"), (0, u "()V"), (7, .class_ 16), (1, u "java/util/Arrays"), (57, .class_ 76), (1, u "java/util/Arrays$NaturalOrder"), (32, u "()Ljava/lang/Object;"), (3, .class_ 115), (1, u "java/util/Arrays$LegacyMergeSort"), (1, u "Z"), (10, .nameAndType 129 109), (0, u "clone"), (20, .methodref 151 152), (0, .class_ 153), (0, .nameAndType 154 155), (0, u "java/lang/System"), (0, u "arraycopy"), (0, u "(Ljava/lang/Object;ILjava/lang/Object;II)V"), (146, u "copyOf"), (1, .methodref 305 306), (0, .class_ 307), (0, .nameAndType 308 309), (0, u "java/lang/Math"), (0, u "min"), (0, u "(II)I"), (6, .methodref 317 128), (0, .class_ 318), (0, u "[I"), (56, .class_ 376), (0, u "java/util/Arrays$ArrayList"), (68, u "$assertionsDisabled"), (269, u "MIN_ARRAY_SORT_GRAN"), (0, u "I"), (2, u "INSERTIONSORT_THRESHOLD"), (151, u "([II)[I"), (103, .class_ 976), (0, u "java/util/Arrays$ArrayItr")] 52

def k3m0 : Method := { name := "<init>", desc := "()V", sig := { parameters := [], returnType := none }, accessFlags := 2, code := none }
def k3c1 : Code := { maxStack := 6, maxLocals := 3, code := jdk_65_method_123_code, exceptionTable := #[], attributes := #[] }
def k3m1 : Method := { name := "copyOf", desc := "([II)[I", sig := { parameters := [(.array .int), .int], returnType := some (.array .int) }, accessFlags := 9, code := some k3c1 }
/-- java/util/Arrays -/
def k3 : Class := { plain "java/util/Arrays" (some 0) with
  accessFlags := 49
  interfaces := #[]
  cf := some (fileOf pool3 14 #[.nestMembers #[975, 375, 113, 74]] #[{ accessFlags := 2, nameIndex := 5, descriptorIndex := 6, attributes := #[] }, { accessFlags := 9, nameIndex := 302, descriptorIndex := 871, attributes := #[] }] 49 2 #[] #[{ accessFlags := 26, nameIndex := 715, descriptorIndex := 716, attributes := #[] }, { accessFlags := 26, nameIndex := 719, descriptorIndex := 716, attributes := #[] }, { accessFlags := 4120, nameIndex := 445, descriptorIndex := 117, attributes := #[] }])
  fields := #[{ name := "MIN_ARRAY_SORT_GRAN", type := .int, accessFlags := 26, slot := 0, constantValue := 0 }, { name := "INSERTIONSORT_THRESHOLD", type := .int, accessFlags := 26, slot := 1, constantValue := 0 }, { name := "$assertionsDisabled", type := .boolean, accessFlags := 4120, slot := 2, constantValue := 0 }]
  methods := #[k3m0, k3m1]
  instanceTypes := #[]
  staticTypes := #[.int, .int, .boolean]
  resolved := Array.replicate 1029 none
  statics := none }

def pool4 : Array CpInfo := pool [(1, .class_ 2), (0, u "java/lang/Cloneable"), (0, .class_ 4), (0, u "java/lang/Object")] 2

/-- java/lang/Cloneable -/
def k4 : Class := { plain "java/lang/Cloneable" (some 0) with
  accessFlags := 1537
  interfaces := #[]
  cf := some (fileOf pool4 1 #[] #[] 1537 3 #[] #[])
  fields := #[]
  methods := #[]
  instanceTypes := #[]
  staticTypes := #[]
  resolved := Array.replicate 7 none
  statics := none }

def pool5 : Array CpInfo := pool [(1, .class_ 2), (0, u "java/lang/Math"), (1, .class_ 6), (1, u "java/lang/Object"), (0, u "<init>"), (0, u "()V"), (89, .class_ 100), (1, u "java/lang/Math$RandomNumberGeneratorHolder"), (71, u "negativeZeroFloatBits"), (0, u "J"), (2, u "negativeZeroDoubleBits"), (21, u "max"), (2, u "min"), (43, u "$assertionsDisabled"), (0, u "Z"), (88, u "(II)I"), (2, u "twoToTheDoubleScaleDown"), (0, u "D"), (4, u "twoToTheDoubleScaleUp"), (9, u "E"), (3, u "PI"), (2, u "TAU"), (2, u "DEGREES_TO_RADIANS"), (0, u "RADIANS_TO_DEGREES")] 94

def k5m0 : Method := { name := "<init>", desc := "()V", sig := { parameters := [], returnType := none }, accessFlags := 2, code := none }
def k5c1 : Code := { maxStack := 2, maxLocals := 2, code := jdk_29_method_65_code, exceptionTable := #[], attributes := #[] }
def k5m1 : Method := { name := "max", desc := "(II)I", sig := { parameters := [.int, .int], returnType := some .int }, accessFlags := 9, code := some k5c1 }
def k5c2 : Code := { maxStack := 2, maxLocals := 2, code := jdk_29_method_69_code, exceptionTable := #[], attributes := #[] }
def k5m2 : Method := { name := "min", desc := "(II)I", sig := { parameters := [.int, .int], returnType := some .int }, accessFlags := 9, code := some k5c2 }
/-- java/lang/Math -/
def k5 : Class := { plain "java/lang/Math" (some 0) with
  accessFlags := 49
  interfaces := #[]
  cf := some (fileOf pool5 1 #[.nestMembers #[98]] #[{ accessFlags := 2, nameIndex := 7, descriptorIndex := 8, attributes := #[] }, { accessFlags := 9, nameIndex := 198, descriptorIndex := 335, attributes := #[] }, { accessFlags := 9, nameIndex := 201, descriptorIndex := 335, attributes := #[] }] 49 4 #[] #[{ accessFlags := 25, nameIndex := 354, descriptorIndex := 339, attributes := #[] }, { accessFlags := 25, nameIndex := 358, descriptorIndex := 339, attributes := #[] }, { accessFlags := 25, nameIndex := 361, descriptorIndex := 339, attributes := #[] }, { accessFlags := 26, nameIndex := 364, descriptorIndex := 339, attributes := #[] }, { accessFlags := 26, nameIndex := 365, descriptorIndex := 339, attributes := #[] }, { accessFlags := 26, nameIndex := 172, descriptorIndex := 173, attributes := #[] }, { accessFlags := 26, nameIndex := 176, descriptorIndex := 173, attributes := #[] }, { accessFlags := 8, nameIndex := 344, descriptorIndex := 339, attributes := #[] }, { accessFlags := 8, nameIndex := 338, descriptorIndex := 339, attributes := #[] }, { accessFlags := 4120, nameIndex := 245, descriptorIndex := 246, attributes := #[] }])
  fields := #[{ name := "E", type := .double, accessFlags := 25, slot := 0, constantValue := 0 }, { name := "PI", type := .double, accessFlags := 25, slot := 1, constantValue := 0 }, { name := "TAU", type := .double, accessFlags := 25, slot := 2, constantValue := 0 }, { name := "DEGREES_TO_RADIANS", type := .double, accessFlags := 26, slot := 3, constantValue := 0 }, { name := "RADIANS_TO_DEGREES", type := .double, accessFlags := 26, slot := 4, constantValue := 0 }, { name := "negativeZeroFloatBits", type := .long, accessFlags := 26, slot := 5, constantValue := 0 }, { name := "negativeZeroDoubleBits", type := .long, accessFlags := 26, slot := 6, constantValue := 0 }, { name := "twoToTheDoubleScaleUp", type := .double, accessFlags := 8, slot := 7, constantValue := 0 }, { name := "twoToTheDoubleScaleDown", type := .double, accessFlags := 8, slot := 8, constantValue := 0 }, { name := "$assertionsDisabled", type := .boolean, accessFlags := 4120, slot := 9, constantValue := 0 }]
  methods := #[k5m0, k5m1, k5m2]
  instanceTypes := #[]
  staticTypes := #[.double, .double, .double, .double, .double, .long, .long, .double, .double, .boolean]
  resolved := Array.replicate 460 none
  statics := none }

def pool6 : Array CpInfo := pool [(2, .class_ 4), (1, u "java/lang/Object"), (0, u "<init>"), (0, u "()V"), (1, .class_ 10), (1, u "java/lang/System"), (0, u "allowSecurityManager"), (0, u "I"), (16, u "cons"), (0, u "Ljava/io/Console;"), (77, .class_ 110), (1, u "java/lang/System$CallersHolder"), (43, u "initialErrStream"), (0, u "Ljava/io/PrintStream;"), (19, u "security"), (0, u "Ljava/lang/SecurityManager;"), (31, .class_ 209), (0, u "java/lang/System$1"), (7, u "props"), (0, u "Ljava/util/Properties;"), (2, u "lineSeparator"), (0, u "Ljava/lang/String;"), (96, .class_ 321), (1, u "java/lang/System$LoggerFinder"), (5, .class_ 328), (0, u "java/lang/System$Logger"), (67, u "err"), (2, u "out"), (91, u "notSupportedJnuEncoding"), (15, u "in"), (17, u "initialIn"), (0, u "Ljava/io/InputStream;"), (35, u "bootLayer"), (0, u "Ljava/lang/ModuleLayer;"), (99, .class_ 664), (0, u "java/lang/System$2"), (9, u "NEVER"), (2, u "MAYBE"), (49, u "arraycopy"), (0, u "(Ljava/lang/Object;ILjava/lang/Object;II)V"), (72, .class_ 802), (0, u "java/lang/System$Logger$Level")] 31

def k6m0 : Method := { name := "<init>", desc := "()V", sig := { parameters := [], returnType := none }, accessFlags := 2, code := none }
def k6m1 : Method := { name := "arraycopy", desc := "(Ljava/lang/Object;ILjava/lang/Object;II)V", sig := { parameters := [(.object "java/lang/Object"), .int, (.object "java/lang/Object"), .int, .int], returnType := none }, accessFlags := 265, code := none }
/-- java/lang/System -/
def k6 : Class := { plain "java/lang/System" (some 0) with
  accessFlags := 49
  interfaces := #[]
  cf := some (fileOf pool6 8 #[.nestMembers #[319, 327, 801, 108, 663, 208]] #[{ accessFlags := 2, nameIndex := 5, descriptorIndex := 6, attributes := #[] }, { accessFlags := 265, nameIndex := 727, descriptorIndex := 728, attributes := #[] }] 49 2 #[] #[{ accessFlags := 25, nameIndex := 507, descriptorIndex := 526, attributes := #[] }, { accessFlags := 25, nameIndex := 399, descriptorIndex := 155, attributes := #[] }, { accessFlags := 25, nameIndex := 396, descriptorIndex := 155, attributes := #[] }, { accessFlags := 10, nameIndex := 525, descriptorIndex := 526, attributes := #[] }, { accessFlags := 26, nameIndex := 674, descriptorIndex := 12, attributes := #[] }, { accessFlags := 26, nameIndex := 677, descriptorIndex := 12, attributes := #[] }, { accessFlags := 10, nameIndex := 11, descriptorIndex := 12, attributes := #[] }, { accessFlags := 74, nameIndex := 175, descriptorIndex := 176, attributes := #[] }, { accessFlags := 10, nameIndex := 491, descriptorIndex := 222, attributes := #[] }, { accessFlags := 74, nameIndex := 29, descriptorIndex := 30, attributes := #[] }, { accessFlags := 74, nameIndex := 154, descriptorIndex := 155, attributes := #[] }, { accessFlags := 10, nameIndex := 217, descriptorIndex := 218, attributes := #[] }, { accessFlags := 10, nameIndex := 221, descriptorIndex := 222, attributes := #[] }, { accessFlags := 8, nameIndex := 562, descriptorIndex := 563, attributes := #[] }])
  fields := #[{ name := "in", type := (.object "java/io/InputStream"), accessFlags := 25, slot := 0, constantValue := 0 }, { name := "out", type := (.object "java/io/PrintStream"), accessFlags := 25, slot := 1, constantValue := 0 }, { name := "err", type := (.object "java/io/PrintStream"), accessFlags := 25, slot := 2, constantValue := 0 }, { name := "initialIn", type := (.object "java/io/InputStream"), accessFlags := 10, slot := 3, constantValue := 0 }, { name := "NEVER", type := .int, accessFlags := 26, slot := 4, constantValue := 0 }, { name := "MAYBE", type := .int, accessFlags := 26, slot := 5, constantValue := 0 }, { name := "allowSecurityManager", type := .int, accessFlags := 10, slot := 6, constantValue := 0 }, { name := "security", type := (.object "java/lang/SecurityManager"), accessFlags := 74, slot := 7, constantValue := 0 }, { name := "notSupportedJnuEncoding", type := (.object "java/lang/String"), accessFlags := 10, slot := 8, constantValue := 0 }, { name := "cons", type := (.object "java/io/Console"), accessFlags := 74, slot := 9, constantValue := 0 }, { name := "initialErrStream", type := (.object "java/io/PrintStream"), accessFlags := 74, slot := 10, constantValue := 0 }, { name := "props", type := (.object "java/util/Properties"), accessFlags := 10, slot := 11, constantValue := 0 }, { name := "lineSeparator", type := (.object "java/lang/String"), accessFlags := 10, slot := 12, constantValue := 0 }, { name := "bootLayer", type := (.object "java/lang/ModuleLayer"), accessFlags := 8, slot := 13, constantValue := 0 }]
  methods := #[k6m0, k6m1]
  instanceTypes := #[]
  staticTypes := #[(.object "java/io/InputStream"), (.object "java/io/PrintStream"), (.object "java/io/PrintStream"), (.object "java/io/InputStream"), .int, .int, .int, (.object "java/lang/SecurityManager"), (.object "java/lang/String"), (.object "java/io/Console"), (.object "java/io/PrintStream"), (.object "java/util/Properties"), (.object "java/lang/String"), (.object "java/lang/ModuleLayer")]
  resolved := Array.replicate 834 none
  statics := none }

def pool7 : Array CpInfo := pool [(1, u "java/io/Serializable"), (0, .class_ 1), (0, u "java/lang/Object"), (0, .class_ 3)] 3

/-- java/io/Serializable -/
def k7 : Class := { plain "java/io/Serializable" (some 0) with
  accessFlags := 1537
  interfaces := #[]
  cf := some (fileOf pool7 2 #[] #[] 1537 4 #[] #[])
  fields := #[]
  methods := #[]
  instanceTypes := #[]
  staticTypes := #[]
  resolved := Array.replicate 8 none
  statics := none }

/-- the primitive byte -/
def k8 : Class := { plain "byte" none with kind := .primitive 'B', accessFlags := 0x411 }
/-- [B -/
def k9 : Class := { plain "[B" (some 0) with kind := .array 8 .byte, interfaces := #[4, 7], accessFlags := 1041 }

/-- the primitive int -/
def k10 : Class := { plain "int" none with kind := .primitive 'I', accessFlags := 0x411 }
/-- [I -/
def k11 : Class := { plain "[I" (some 0) with kind := .array 10 .int, interfaces := #[4, 7], accessFlags := 1041 }

def heap : Heap := #[]
def classes : Array Class := #[k0, k1, k2, k3, k4, k5, k6, k7, k8, k9, k10, k11]
def interned : List (Array UInt16 × Addr) := []
def slotsUsed : Nat := 0
def theMethod : MethodId := ⟨1, 1⟩
def args0 : Array Value := #[.int 3, .int 9, .int 9, .int 4, .int 514]
def aboutOver (below : List Frame) : State where
  vm := { classes := classes, interned := interned.toArray }
  heap := heap
  slotsUsed := slotsUsed
  threads := #[{ frames := .invoking theMethod args0 :: below }]
def below0 : List Frame := [.native { method := ⟨0, 0⟩, args := #[] }]
def about1 : State := aboutOver below0
def p0 : Program := .bare "" "" ""
def e0 : Env := launch0.env 0 0 0
theorem w_frames : about1.frames = Frame.invoking theMethod args0 :: below0 := rfl
set_option maxRecDepth 65536 in
theorem w_args : argsFit about1.vm theMethod args0 = true := by decide +kernel
set_option maxRecDepth 65536 in
theorem w_heap : heapFits about1 = true := by decide +kernel
set_option maxRecDepth 65536 in
theorem w_runnable : about1.curStatus? = some .runnable := by decide +kernel
set_option maxRecDepth 65536 in
theorem w_alone : about1.alone = true := by decide +kernel
set_option maxRecDepth 65536 in
theorem w_named : about1.methodNamed? x = some theMethod := by decide +kernel
set_option maxRecDepth 65536 in
theorem w_hears : about1.hears theMethod below0 = true := by decide +kernel
set_option maxRecDepth 65536 in
theorem w_ripe : about1.ripe theMethod args0 below0 = true := by decide +kernel
theorem w_running : about1.status = .running := rfl
set_option maxRecDepth 65536 in
theorem w_room : about1.hasRoom e0.platform room_1 = true :=
  launch0.hasRoom_least _ room_1 (by decide +kernel) (by decide +kernel) (by decide +kernel) (by decide +kernel) (by decide +kernel) (by decide +kernel)
theorem allAtoms_all (ts : List Jvm.Cond) (a : Array Jvm.Value) (st : Jvm.State) : (allAtoms ts).before a st = ts.all (fun c => c.before a st) := by
  induction ts with
  | nil => rfl
  | cons c t ih =>
    show (Jvm.Cond.and c (allAtoms t)).before a st = _
    rw [Jvm.Cond.before_and, ih, List.all_cons]
def words1 : List Jvm.Cond := Jvm.Cond.code x code maxLocals ret :: tables_1
/-- a 'code' word, met by the world's own term for the bytes: nothing is compared byte by byte -/
theorem code_word {y : MethodName} {bytes : ByteArray} {mx : Nat} {rt : Option FieldType} {a : Array Value} {s : State} {m : MethodId} {meth : Method} {c : Code} (h1 : s.methodNamed? y = some m) (h2 : s.vm.method? m = some meth) (h3 : meth.code = some c) (h4 : c.code = bytes)
    (h5 : (c.maxLocals == mx && c.exceptionTable.isEmpty && decide (c.maxStack ≤ mostOperands) && decide (meth.sig.returnType = rt) && !meth.locks && decide (parseMethodDescriptor y.desc = some meth.sig)) = true) : (Jvm.Cond.code y bytes mx rt).before a s = true := by
  simp only [Bool.and_eq_true, beq_iff_eq, Bool.not_eq_true', decide_eq_true_eq] at h5
  obtain ⟨⟨⟨⟨⟨g1, g2⟩, g3⟩, g4⟩, g5⟩, g6⟩ := h5
  simp [Cond.before, Cond.holds, Cond.value, h1, h2, h3, h4, g1, g2, g3, g4, g5, g6]
def isCode : Jvm.Cond → Bool
  | .code _ _ _ _ => true
  | _ => false
theorem all_split {L : List Jvm.Cond} {P : Jvm.Cond → Bool} (h1 : L.all (fun c => isCode c || P c) = true) (h2 : ∀ c ∈ L.filter isCode, P c = true) : L.all P = true := by
  refine List.all_eq_true.mpr fun c hc => ?_
  have h := List.all_eq_true.mp h1 c hc
  rcases Bool.eq_false_or_eq_true (isCode c) with hi | hi
  · exact h2 c (List.mem_filter.mpr ⟨hc, hi⟩)
  · simpa [hi] using h
set_option maxRecDepth 65536 in
theorem w_c0 : (Jvm.Cond.code x code maxLocals ret).before args0 about1 = true := code_word (m := ⟨1, 1⟩) (meth := k1m1) (c := k1c1) (by decide +kernel) rfl rfl rfl (by decide +kernel)
set_option maxRecDepth 65536 in
theorem w_c1 : (Jvm.Cond.code ({ cls := "com/example/petri_net_analyzer/petrinetanalyzer/SparseVectorUnionPinLaw", name := "make", desc := "(III)[I" } : Jvm.MethodName) method_3_code (3 : Nat) (Option.some (Jvm.ClassFile.FieldType.array Jvm.ClassFile.FieldType.int))).before args0 about1 = true := code_word (m := ⟨1, 2⟩) (meth := k1m2) (c := k1c2) (by decide +kernel) rfl rfl rfl (by decide +kernel)
set_option maxRecDepth 65536 in
theorem w_c2 : (Jvm.Cond.code ({ cls := "com/example/petri_net_analyzer/petrinetanalyzer/SparseVector", name := "union", desc := "([I[I)[I" } : Jvm.MethodName) prog_31_method_14_code (9 : Nat) (Option.some (Jvm.ClassFile.FieldType.array Jvm.ClassFile.FieldType.int))).before args0 about1 = true := code_word (m := ⟨2, 0⟩) (meth := k2m0) (c := k2c0) (by decide +kernel) rfl rfl rfl (by decide +kernel)
set_option maxRecDepth 65536 in
theorem w_c3 : (Jvm.Cond.code ({ cls := "java/util/Arrays", name := "copyOf", desc := "([II)[I" } : Jvm.MethodName) jdk_65_method_123_code (3 : Nat) (Option.some (Jvm.ClassFile.FieldType.array Jvm.ClassFile.FieldType.int))).before args0 about1 = true := code_word (m := ⟨3, 1⟩) (meth := k3m1) (c := k3c1) (by decide +kernel) rfl rfl rfl (by decide +kernel)
set_option maxRecDepth 65536 in
theorem w_c4 : (Jvm.Cond.code ({ cls := "com/example/petri_net_analyzer/petrinetanalyzer/SparseVectorUnionPinLaw", name := "increasing", desc := "([I)Z" } : Jvm.MethodName) method_5_code (1 : Nat) (Option.some Jvm.ClassFile.FieldType.boolean)).before args0 about1 = true := code_word (m := ⟨1, 4⟩) (meth := k1m4) (c := k1c4) (by decide +kernel) rfl rfl rfl (by decide +kernel)
set_option maxRecDepth 65536 in
theorem w_c5 : (Jvm.Cond.code ({ cls := "com/example/petri_net_analyzer/petrinetanalyzer/SparseVectorUnionPinLaw", name := "allIn", desc := "([I[I)Z" } : Jvm.MethodName) method_6_code (2 : Nat) (Option.some Jvm.ClassFile.FieldType.boolean)).before args0 about1 = true := code_word (m := ⟨1, 5⟩) (meth := k1m5) (c := k1c5) (by decide +kernel) rfl rfl rfl (by decide +kernel)
set_option maxRecDepth 65536 in
theorem w_c6 : (Jvm.Cond.code ({ cls := "com/example/petri_net_analyzer/petrinetanalyzer/SparseVectorUnionPinLaw", name := "fromEither", desc := "([I[I[I)Z" } : Jvm.MethodName) method_7_code (3 : Nat) (Option.some Jvm.ClassFile.FieldType.boolean)).before args0 about1 = true := code_word (m := ⟨1, 6⟩) (meth := k1m6) (c := k1c6) (by decide +kernel) rfl rfl rfl (by decide +kernel)
set_option maxRecDepth 65536 in
theorem w_c7 : (Jvm.Cond.code ({ cls := "java/lang/Math", name := "min", desc := "(II)I" } : Jvm.MethodName) jdk_29_method_69_code (2 : Nat) (Option.some Jvm.ClassFile.FieldType.int)).before args0 about1 = true := code_word (m := ⟨5, 2⟩) (meth := k5m2) (c := k5c2) (by decide +kernel) rfl rfl rfl (by decide +kernel)
set_option maxRecDepth 65536 in
theorem w_c8 : (Jvm.Cond.code ({ cls := "com/example/petri_net_analyzer/petrinetanalyzer/SparseVectorUnionPinLaw", name := "has", desc := "([II)Z" } : Jvm.MethodName) method_4_code (2 : Nat) (Option.some Jvm.ClassFile.FieldType.boolean)).before args0 about1 = true := code_word (m := ⟨1, 3⟩) (meth := k1m3) (c := k1c3) (by decide +kernel) rfl rfl rfl (by decide +kernel)
set_option maxRecDepth 65536 in
theorem w_c9 : (Jvm.Cond.code ({ cls := "java/lang/Math", name := "max", desc := "(II)I" } : Jvm.MethodName) jdk_29_method_65_code (2 : Nat) (Option.some Jvm.ClassFile.FieldType.int)).before args0 about1 = true := code_word (m := ⟨5, 1⟩) (meth := k5m1) (c := k5c1) (by decide +kernel) rfl rfl rfl (by decide +kernel)
def codes1 : List Jvm.Cond := [Jvm.Cond.code x code maxLocals ret, Jvm.Cond.code ({ cls := "com/example/petri_net_analyzer/petrinetanalyzer/SparseVectorUnionPinLaw", name := "make", desc := "(III)[I" } : Jvm.MethodName) method_3_code (3 : Nat) (Option.some (Jvm.ClassFile.FieldType.array Jvm.ClassFile.FieldType.int)), Jvm.Cond.code ({ cls := "com/example/petri_net_analyzer/petrinetanalyzer/SparseVector", name := "union", desc := "([I[I)[I" } : Jvm.MethodName) prog_31_method_14_code (9 : Nat) (Option.some (Jvm.ClassFile.FieldType.array Jvm.ClassFile.FieldType.int)), Jvm.Cond.code ({ cls := "java/util/Arrays", name := "copyOf", desc := "([II)[I" } : Jvm.MethodName) jdk_65_method_123_code (3 : Nat) (Option.some (Jvm.ClassFile.FieldType.array Jvm.ClassFile.FieldType.int)), Jvm.Cond.code ({ cls := "com/example/petri_net_analyzer/petrinetanalyzer/SparseVectorUnionPinLaw", name := "increasing", desc := "([I)Z" } : Jvm.MethodName) method_5_code (1 : Nat) (Option.some Jvm.ClassFile.FieldType.boolean), Jvm.Cond.code ({ cls := "com/example/petri_net_analyzer/petrinetanalyzer/SparseVectorUnionPinLaw", name := "allIn", desc := "([I[I)Z" } : Jvm.MethodName) method_6_code (2 : Nat) (Option.some Jvm.ClassFile.FieldType.boolean), Jvm.Cond.code ({ cls := "com/example/petri_net_analyzer/petrinetanalyzer/SparseVectorUnionPinLaw", name := "fromEither", desc := "([I[I[I)Z" } : Jvm.MethodName) method_7_code (3 : Nat) (Option.some Jvm.ClassFile.FieldType.boolean), Jvm.Cond.code ({ cls := "java/lang/Math", name := "min", desc := "(II)I" } : Jvm.MethodName) jdk_29_method_69_code (2 : Nat) (Option.some Jvm.ClassFile.FieldType.int), Jvm.Cond.code ({ cls := "com/example/petri_net_analyzer/petrinetanalyzer/SparseVectorUnionPinLaw", name := "has", desc := "([II)Z" } : Jvm.MethodName) method_4_code (2 : Nat) (Option.some Jvm.ClassFile.FieldType.boolean), Jvm.Cond.code ({ cls := "java/lang/Math", name := "max", desc := "(II)I" } : Jvm.MethodName) jdk_29_method_65_code (2 : Nat) (Option.some Jvm.ClassFile.FieldType.int)]
set_option maxRecDepth 65536 in
theorem codes_eq : words1.filter isCode = codes1 := rfl
theorem w_codes : ∀ c ∈ words1.filter isCode, c.before args0 about1 = true := by
  rw [codes_eq]
  intro c hc
  simp only [codes1, List.mem_cons, List.not_mem_nil, or_false] at hc
  rcases hc with rfl | rfl | rfl | rfl | rfl | rfl | rfl | rfl | rfl | rfl
  · exact w_c0
  · exact w_c1
  · exact w_c2
  · exact w_c3
  · exact w_c4
  · exact w_c5
  · exact w_c6
  · exact w_c7
  · exact w_c8
  · exact w_c9
set_option maxRecDepth 65536 in
theorem w_t1 : (words1.take 24).all (fun c => isCode c || c.before args0 about1) = true := by decide +kernel
set_option maxRecDepth 65536 in
theorem w_t2 : ((words1.drop 24).take 24).all (fun c => isCode c || c.before args0 about1) = true := by decide +kernel
set_option maxRecDepth 65536 in
theorem w_t3 : ((words1.drop 24).drop 24).all (fun c => isCode c || c.before args0 about1) = true := by decide +kernel
theorem w_tables : (allAtoms (Jvm.Cond.code x code maxLocals ret :: tables_1)).before args0 about1 = true := by
  rw [allAtoms_all]
  show words1.all (fun c => c.before args0 about1) = true
  refine all_split ?_ w_codes
  rw [← List.take_append_drop 24 words1, List.all_append, w_t1, ← List.take_append_drop 24 (words1.drop 24), List.all_append, w_t2, w_t3]
  rfl
set_option maxRecDepth 65536 in
theorem w_case : (Jvm.Cond.and given_1 narrow_1).before args0 about1 = true := by decide +kernel
theorem w_applies : (headSpec (Jvm.Cond.code x code maxLocals ret :: tables_1) room_1).applies x e0.platform about1 = true :=
  (Spec.applies_iff w_frames).mpr ⟨w_running, w_runnable, w_alone, w_named, w_hears, w_ripe, w_room, w_tables⟩
theorem atStart : AtStart classFile x code maxLocals ret World_1 tables_1 room_1 Calls_1 rest_1 Pre_1 launch0 p0 e0 about1 theMethod args0 below0 :=
  ⟨lists_1, trivial, launch0.admits_env _ _ _, launch0.least_env, fairChoices_fair.cas, fairChoices_fair.clock, w_frames, w_args, w_heap, w_applies, trivial, trivial, w_case⟩
end start1
theorem witness_1 : WitnessClaimed_1 := ⟨start1.p0, start1.e0, start1.about1, start1.theMethod, start1.args0, start1.below0, start1.atStart⟩
end Jvm.Pilot.@@N@@
