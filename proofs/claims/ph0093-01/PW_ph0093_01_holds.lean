import PyProof.Rows.All
import Wide.All
import OpenK.AllK
import Wide.FinOn
import PySem.Challenge.RW_ph0093_01
open PySem PySem.W PyProof.Rows PySem.Calls
set_option Elab.async false
set_option maxRecDepth 100000
set_option maxHeartbeats 8000000
set_option linter.unusedVariables false
set_option linter.unusedSimpArgs false
set_option rowWalk.seconds 0
namespace Mine
section -- B0
set_option maxHeartbeats 8000000
open_top hd for PySem.Challenge.rw_ph0093_01
end
-- open_top leaves the walk in the top's way: back to the plain one
theorem plain_walk : True := by
  w_top off
  exact True.intro
section -- B1
set_option maxHeartbeats 8000000
abbrev tupO (vs : List Value) (c : Nat) : Obj := { cls := .type "tuple", data := .seq vs.toArray c }
abbrev AA (dp un : Nat) (fr : Option (List Env)) (gd : Option (List Code)) : Around := { handled := none, depth := dp, frames := fr, guards := gd, units := un }
def Sub (h h' : Heap) : Prop := ∀ b o, h.get? b = some o → h'.get? b = some o
/-- all of h but the addresses ex stays in h' -/
def KB (ex : List Addr) (h h' : Heap) : Prop := ∀ b o, b ∉ ex → h.get? b = some o → h'.get? b = some o
theorem KB.refl (ex : List Addr) (h : Heap) : KB ex h h := fun _ _ _ e => e
theorem KB.trans {ex : List Addr} {h h' h'' : Heap} (a : KB ex h h') (b : KB ex h' h'') : KB ex h h'' := fun x o hx e => b x o hx (a x o hx e)
theorem KB.mono {ex ex' : List Addr} {h h' : Heap} (a : KB ex h h') (s : ∀ x ∈ ex, x ∈ ex') : KB ex' h h' := fun x o hx e => a x o (fun q => hx (s x q)) e
theorem fr_kb {g h h' : Heap} {L : Addr} {m : Str → Option Value} {ex : List Addr} (F : Fr g L h m) (k : KB ex h h') (hL : L ∉ ex) (hg : ∀ b ∈ ex, g.get? b = none) : Fr g L h' m :=
  ⟨F.ns.at' fun o e => k L o hL e, fun b o e => k b o (fun q => by rw [hg b q] at e; cases e) (F.keep b o e), F.above⟩
theorem news_kb {g h h' : Heap} {L : Addr} {ex : List Addr} {news : List (Addr × Obj)} (N : News g L h news) (k : KB ex h h') (off : ∀ p ∈ news, p.1 ∉ ex) : News g L h' news :=
  fun p hp => ⟨k _ _ (off p hp) (N p hp).1, (N p hp).2⟩
theorem news_cons {g h : Heap} {L a : Addr} {o : Obj} {news : List (Addr × Obj)} (e : h.get? a = some o) (hL : a ≠ L) (hg : g.get? a = none) (N : News g L h news) : News g L h ((a, o) :: news) := fun p hp => by
  rcases List.mem_cons.mp hp with rfl | hp
  · exact ⟨e, hL, hg⟩
  · exact N p hp

section
variable {prog : Program} {w : World} {dp un : Nat} {fr : Option (List Env)} {gd : Option (List Code)} {s : Shared} {Q E : Value → Shared → Prop} {name qual : Str} {params : Arguments} {body : List Stmt} {scope : Scope} {cl : List (Str × Addr)} {dV kV doc pm cdv ct : Value} {an : Option Addr} {fo : Obj} {f : Addr} {args : List Value} {binds : List (Str × Value)}

theorem enterH (hid : List (Addr × Obj)) (hhid : ∀ p ∈ hid, s.heap.get? p.1 = some p.2) (hlim : s.heap.NoLimit)
    (ho : s.heap.get? f = some fo) (hd : fo.data = .func (fnX name qual params body scope cl dV kV doc pm an cdv ct)) (hcd : s.heap.CodeRec cdv qual) (hroom : dp < recursionLimit)
    (hbind : bindArgs (fnX name qual params body scope cl dV kV doc pm an cdv ct) ⟨args, []⟩ = pure binds) (hloc : ∀ y ∈ binds, scope.names.lookup y.1 = some .local)
    (h : ∀ g L' h₁, Fr g L' h₁ (fun y => binds.reverse.lookup y) → News g L' h₁ hid → KB (hid.map (·.1)) s.heap g → Sub g s.heap → s.heap.objs.size = L' → (∀ p ∈ hid, p.1 < L') →
      wpAny (model prog w) ((AA dp un fr gd).deeper (envX qual scope L' f cdv cl)) (execs body (envX qual scope L' f cdv cl))
        (fun fl s' => Q (match fl with | .ret v => v | _ => .none) s') (fun _ _ => False)
        { s with heap := h₁, toks := s.toks + binds.length })
    (hcell : ∀ x ∈ scope.names, x.2 ≠ .cell) (hco : scope.isCoroutine = false) (hgen : scope.isGenerator = false) (hk : scope.kind = .function) :
    wpAny (model prog w) (AA dp un fr gd) (call (.ref f) args) Q E s := by
  refine wpAny_call ?_
  refine codeAny_call_def (fd := fnX name qual params body scope cl dV kV doc pm an cdv ct) (body := body) (binds := binds) hroom ho hd hlim hcd rfl (.of_eq hbind) hcell hloc (fun h₁ hns hk₁ => ?_) hco hgen hk
  exact wpAny_mono (h (hideAll s.heap (hid.map (·.1))) s.heap.objs.size h₁ ⟨hns, fun b o e => hk₁ b o (of_hideAll _ e), Nat.le_of_eq (hideAll_size _ _)⟩
    (fun p hp => ⟨hk₁ _ _ (hhid p hp), Nat.ne_of_lt (Heap.lt_size (hhid p hp)), hideAll_none _ (List.mem_map_of_mem hp)⟩) (fun b o hb e => hideAll_get _ e hb) (fun b o e => of_hideAll _ e) rfl
    (fun p hp => Heap.lt_size (hhid p hp))) (fun fl s' hl => hl) fun _ _ y => y.elim

theorem enterHC (hid : List (Addr × Obj)) (hhid : ∀ p ∈ hid, s.heap.get? p.1 = some p.2) (hlim : s.heap.NoLimit)
    (ho : s.heap.get? f = some fo) (hd : fo.data = .func (fnX name qual params body scope [] dV kV doc pm an cdv ct)) (hcd : s.heap.CodeRec cdv qual) (hroom : dp < recursionLimit)
    (hbind : bindArgs (fnX name qual params body scope [] dV kV doc pm an cdv ct) ⟨args, []⟩ = pure binds)
    (hkind : (binds.all fun y => scope.names.lookup y.1 == some .local || scope.names.lookup y.1 == some .cell) = true)
    (hnd : ((cellsFrom 0 scope.names []).map (·.1)).Nodup)
    (h : ∀ g L' h₁ tk cells, Fr g L' h₁ (bindL (envOfC qual scope L' f cdv).kindOf binds fun _ => none) → News g L' h₁ (cells ++ hid) →
      CellsAre (bindC (envOfC qual scope L' f cdv).kindOf binds fun _ => none) (cellsFrom (L' + 1) scope.names []) cells → KB (hid.map (·.1)) s.heap g → Sub g s.heap → s.heap.objs.size = L' → (∀ p ∈ hid, p.1 < L') →
      wpAny (model prog w) ((AA dp un fr gd).deeper (envOfC qual scope L' f cdv)) (execs body (envOfC qual scope L' f cdv))
        (fun fl s' => Q (match fl with | .ret v => v | _ => .none) s') (fun _ _ => False)
        { s with heap := h₁, toks := tk })
    (hco : scope.isCoroutine = false) (hgen : scope.isGenerator = false) (hk : scope.kind = .function) :
    wpAny (model prog w) (AA dp un fr gd) (call (.ref f) args) Q E s := by
  refine wpAny_call ?_
  refine codeAny_call_function hroom ho hd hco hgen rfl hcd (BindsTo.of_eq hbind _ _ _ _ ?_)
  refine wpAny_newFunctionEnv_cells hk (kindsX hkind _) fun env' he s' x => ?_
  subst he
  refine ⟨hlim.keeps x.toInCall.keep, codeAny_func ?_⟩
  obtain ⟨h₁, tk, rfl, _⟩ := x.done
  have hk₁ := x.toInCall.keep
  obtain ⟨cells, NC, Y⟩ := Cl.news (h₀ := s.heap) (Nat.le_refl _) fun n c hm => ⟨x.cell n c (lookup_of_mem_nodup (cellsFrom_names scope.names 0 (s.heap.objs.size + 1) [] [] rfl ▸ hnd) hm), x.above n c hm⟩
  refine wpAny_mono (h (hideAll s.heap (hid.map (·.1))) s.heap.objs.size h₁ tk cells ⟨x.toInCall.ns, fun b o e => hk₁ b o (of_hideAll _ e), Nat.le_of_eq (hideAll_size _ _)⟩ (fun p hp => ?_) Y (fun b o hb e => hideAll_get _ e hb) (fun b o e => of_hideAll _ e) rfl
    (fun p hp => Heap.lt_size (hhid p hp))) (fun fl s' hl => hl) fun _ _ y => y.elim
  rcases List.mem_append.mp hp with hp | hp
  · refine ⟨(NC p hp).1, (NC p hp).2.1, ?_⟩
    cases q : (hideAll s.heap (hid.map (·.1))).get? p.1 with
    | none => rfl
    | some o => have := of_hideAll _ q; rw [(NC p hp).2.2] at this; cases this
  · exact ⟨hk₁ _ _ (hhid p hp), Nat.ne_of_lt (Heap.lt_size (hhid p hp)), hideAll_none _ (List.mem_map_of_mem hp)⟩
end
end
section -- B2
set_option maxHeartbeats 8000000
/-- what the top left, the three tables laid aside -/
structure Gd (w : World) (p : Program) (loose : List Str) (mean : ExcName → Option Value) (mg mb : Str → Option Value) (g : Heap) : Prop where
  X : (hd.heap_39 w.params).In g
  T : Top p loose mean mg mb g
  c1 : CodeHd g 41 37
  c2 : CodeHd g 48 44
  c3 : CodeHd g 67 65
  n1 : g.get? 37 = none
  n2 : g.get? 44 = none
  n3 : g.get? 65 = none
theorem Gd.up {w : World} {p : Program} {loose : List Str} {mean : ExcName → Option Value} {mg mb : Str → Option Value} {g g' : Heap} (G : Gd w p loose mean mg mb g) (hs : Sub g g') (n1 : g'.get? 37 = none) (n2 : g'.get? 44 = none) (n3 : g'.get? 65 = none) : Gd w p loose mean mg mb g' :=
  ⟨G.X.keeps hs, G.T.keeps hs, G.c1.keeps hs, G.c2.keeps hs, G.c3.keeps hs, n1, n2, n3⟩
section
variable {prog : Program} {w : World} {K : Frag} {p : Program} {loose : List Str} {mean : ExcName → Option Value} {mg mb : Str → Option Value} {dp un : Nat} {fr : Option (List Env)} {gd : Option (List Code)} {s : Shared} {Q E : Value → Shared → Prop} {name qual : Str} {params : Arguments} {body : List Stmt} {scope : Scope} {dV kV doc pm cdv ct oc : Value} {an od : Option Addr} {osl : Array (Option Value)} {f : Addr} {args : List Value} {binds : List (Str × Value)} {g₀ : Heap}

theorem enterK (hid : List (Addr × Obj)) (hhid : ∀ p ∈ hid, s.heap.get? p.1 = some p.2) (X : K.In g₀) (T : Top p loose mean mg mb g₀) (hs : Sub g₀ s.heap) (hg : ∀ p ∈ hid, g₀.get? p.1 = none)
    (ho : K.lookup f = some ⟨oc, od, .func (fnOf name qual params body scope dV kV doc pm an cdv ct), osl⟩) (hcd : codeIn K cdv qual = true) (hroom : dp < recursionLimit)
    (hbind : bindArgs (fnOf name qual params body scope dV kV doc pm an cdv ct) ⟨args, []⟩ = pure binds) (hloc : ∀ y ∈ binds, scope.names.lookup y.1 = some .local)
    (h : ∀ g L' h₁, Fr g L' h₁ (fun y => binds.reverse.lookup y) → News g L' h₁ hid → KB (hid.map (·.1)) s.heap g → Sub g s.heap → Sub g₀ g → K.In g → Top p loose mean mg mb g → s.heap.objs.size = L' → (∀ p ∈ hid, p.1 < L') →
      wpAny (model prog w) ((AA dp un fr gd).deeper (envOf qual scope L' f cdv)) (execs body (envOf qual scope L' f cdv))
        (fun fl s' => Q (match fl with | .ret v => v | _ => .none) s') (fun _ _ => False)
        { s with heap := h₁, toks := s.toks + binds.length })
    (hcell : ∀ x ∈ scope.names, x.2 ≠ .cell) (hco : scope.isCoroutine = false) (hgen : scope.isGenerator = false) (hk : scope.kind = .function) :
    wpAny (model prog w) (AA dp un fr gd) (call (.ref f) args) Q E s :=
  enterH (cl := []) hid hhid (T.nolimit.keeps hs) (hs _ _ (X _ _ ho)) rfl ((codeRec_of (X.keeps hs) hcd)) hroom hbind hloc
    (fun g L' h₁ F N kb sb e l => by
      have sg : Sub g₀ g := fun b o eb => kb b o (fun q => by
        obtain ⟨x, hx, rfl⟩ := List.mem_map.mp q
        rw [hg x hx] at eb; cases eb) (hs b o eb)
      exact h g L' h₁ F N kb sb sg (X.keeps sg) (T.keeps sg) e l) hcell hco hgen hk

theorem enterKC (hid : List (Addr × Obj)) (hhid : ∀ p ∈ hid, s.heap.get? p.1 = some p.2) (X : K.In g₀) (T : Top p loose mean mg mb g₀) (hs : Sub g₀ s.heap) (hg : ∀ p ∈ hid, g₀.get? p.1 = none)
    (ho : K.lookup f = some ⟨oc, od, .func (fnOf name qual params body scope dV kV doc pm an cdv ct), osl⟩) (hcd : codeIn K cdv qual = true) (hroom : dp < recursionLimit)
    (hbind : bindArgs (fnOf name qual params body scope dV kV doc pm an cdv ct) ⟨args, []⟩ = pure binds)
    (hkind : (binds.all fun y => scope.names.lookup y.1 == some .local || scope.names.lookup y.1 == some .cell) = true)
    (hnd : ((cellsFrom 0 scope.names []).map (·.1)).Nodup)
    (h : ∀ g L' h₁ tk cells, Fr g L' h₁ (bindL (envOfC qual scope L' f cdv).kindOf binds fun _ => none) → News g L' h₁ (cells ++ hid) →
      CellsAre (bindC (envOfC qual scope L' f cdv).kindOf binds fun _ => none) (cellsFrom (L' + 1) scope.names []) cells → KB (hid.map (·.1)) s.heap g → Sub g s.heap → Sub g₀ g → K.In g → Top p loose mean mg mb g → s.heap.objs.size = L' → (∀ p ∈ hid, p.1 < L') →
      wpAny (model prog w) ((AA dp un fr gd).deeper (envOfC qual scope L' f cdv)) (execs body (envOfC qual scope L' f cdv))
        (fun fl s' => Q (match fl with | .ret v => v | _ => .none) s') (fun _ _ => False)
        { s with heap := h₁, toks := tk })
    (hco : scope.isCoroutine = false) (hgen : scope.isGenerator = false) (hk : scope.kind = .function) :
    wpAny (model prog w) (AA dp un fr gd) (call (.ref f) args) Q E s :=
  enterHC hid hhid (T.nolimit.keeps hs) (hs _ _ (X _ _ ho)) rfl ((codeRec_of (X.keeps hs) hcd)) hroom hbind hkind hnd
    (fun g L' h₁ tk cells F N Y kb sb e l => by
      have sg : Sub g₀ g := fun b o eb => kb b o (fun q => by
        obtain ⟨x, hx, rfl⟩ := List.mem_map.mp q
        rw [hg x hx] at eb; cases eb) (hs b o eb)
      exact h g L' h₁ tk cells F N Y kb sb sg (X.keeps sg) (T.keeps sg) e l) hco hgen hk
end
theorem intBits_le {x : Int} {k : Nat} (h0 : 0 ≤ x) (h : x < 2 ^ k) : ((Builtin.Int.intBits x : Nat) : Int) ≤ k := by
  obtain ⟨n, rfl⟩ := Int.eq_ofNat_of_zero_le h0
  have h' : n < 2 ^ k := by exact_mod_cast h
  unfold Builtin.Int.intBits
  by_cases hn : n = 0
  · subst hn; simp
  · have : ((n : Int) == 0) = false := by simp [hn]
    rw [this]
    have h2 := (Nat.log2_lt hn).mpr h'
    simp only [Bool.false_eq_true, if_false, Int.natAbs_natCast]
    omega
theorem intBits_nn (x : Int) : (0 : Int) ≤ ((Builtin.Int.intBits x : Nat) : Int) := Int.natCast_nonneg _
end
section -- A1
set_option maxHeartbeats 8000000
-- (an old token of the library's, given a meaning of our own here)
local macro_rules | `(tactic| tb_start) => `(tactic| ((case X => k_asm); (case T => k_asm); (case hs => k_asm); (case ho => k_is); (case hcd => k_is); (case hroom => ktr_room); (case hb => exact rfl); (case hl => exact locs rfl); (case c1 => decide); (case c2 => exact rfl); (case c3 => exact rfl); (case c4 => exact rfl)))
theorem div2_H {w : World} {p : Program} {loose : List Str} {mean : ExcName → Option Value} {mg mb : Str → Option Value} {g₀ : Heap} (G : Gd w p loose mean mg mb g₀)
   {dp un : Nat} {fr : Option (List Env)} {gd : Option (List Code)} {s : Shared} {Q E : Value → Shared → Prop} (hs : Sub g₀ s.heap)
   {x y n : Int} {tx ty tn : Tok} (hx : 0 ≤ x) (hy : 0 < y) (hxb : x < 2 ^ 60) (hyb : y < 2 ^ 20) (hn : 0 ≤ n) (hdp : dp + 10 < recursionLimit) (hun : un + 50 < cLine)
   (hret : ∀ D t1 t2 c h' tk', KB [] s.heap h' → s.heap.objs.size ≤ D → h'.get? D = some (tupO [.int (x / y) t1, .int (x % y) t2] c) → Q (.ref D) { s with heap := h', toks := tk' }) :
   wpAny (model PySem.Challenge.rw_ph0093_01.row.prog w) (AA dp un fr gd) (call (.ref 28) [.int x tx, .int y ty, .int n tn]) Q E s := by
  have X := G.X
  have T := G.T
  have hb1 := intBits_le hx hxb
  revert X; k_fill; intro X
  k_dflt (refine' enterK (binds := [(Str.ofString "a", .int x tx), (Str.ofString "b", .int y ty), (Str.ofString "n", .int n tn)]) [] (fun _ h => nomatch h) ?X ?T ?hs (fun _ h => nomatch h) ?ho ?hcd ?hroom ?hb ?hl ?_ ?c1 ?c2 ?c3 ?c4; tb_start)
  intro g L' h₁ F N kb sb sg X' T' hL hl
  (try dsimp only)
  (try k_fold)
  k_steps
  rename Fr _ _ _ _ => F9
  rename News _ _ _ _ => N9
  have h9 := (N9 _ (.head _)).1
  rw [Int.fdiv_eq_ediv_of_nonneg _ (by omega), Int.fmod_eq_emod_of_nonneg _ (by omega)] at h9
  refine hret _ _ _ 0 _ _ (fun b o hb e => F9.keep b o (kb b o hb e)) ?_ h9
  rw [hL]; exact Nat.le_of_lt F.ns.lt
end
section -- M1
open PySem
theorem nat_hi_or (a k : Nat) : a ||| (a / 2 ^ k * 2 ^ k) = a := by
  apply Nat.eq_of_testBit_eq
  intro i
  rw [← Nat.shiftRight_eq_div_pow, ← Nat.shiftLeft_eq]
  simp only [Nat.testBit_or, Nat.testBit_shiftLeft, Nat.testBit_shiftRight]
  by_cases h : k ≤ i
  · have : k + (i - k) = i := by omega
    simp [h, this]
  · simp [h]
theorem nat_hi_and (a k : Nat) : a &&& (a / 2 ^ k * 2 ^ k) = a / 2 ^ k * 2 ^ k := by
  apply Nat.eq_of_testBit_eq
  intro i
  rw [← Nat.shiftRight_eq_div_pow, ← Nat.shiftLeft_eq]
  simp only [Nat.testBit_and, Nat.testBit_shiftLeft, Nat.testBit_shiftRight]
  by_cases h : k ≤ i
  · have : k + (i - k) = i := by omega
    simp [h, this]
  · simp [h]
theorem bitAnd_nat (a b : Nat) : Builtin.bitAnd (a : Int) (b : Int) = ((a &&& b : Nat) : Int) := by
  unfold Builtin.bitAnd
  have h1 : decide ((0 : Int) ≤ (a : Int)) = true := by simp
  have h2 : decide ((0 : Int) ≤ (b : Int)) = true := by simp
  rw [h1, h2]
  simp
theorem bitOr_nat (a b : Nat) : Builtin.bitOr (a : Int) (b : Int) = ((a ||| b : Nat) : Int) := by
  unfold Builtin.bitOr Builtin.bitAnd Builtin.bitNot
  have h1 : decide ((0 : Int) ≤ (-(a : Int) - 1)) = false := by simp; omega
  have h2 : decide ((0 : Int) ≤ (-(b : Int) - 1)) = false := by simp; omega
  rw [h1, h2]
  have e1 : (-(-(a : Int) - 1) - 1).toNat = a := by omega
  have e2 : (-(-(b : Int) - 1) - 1).toNat = b := by omega
  simp only [e1, e2]
  omega
theorem xor_low {x : Int} (h0 : 0 ≤ x) (k : Nat) : Builtin.bitXor x (x / 2 ^ k * 2 ^ k) = x % 2 ^ k := by
  obtain ⟨n, rfl⟩ := Int.eq_ofNat_of_zero_le h0
  have e : ((n : Int) / 2 ^ k * 2 ^ k) = ((n / 2 ^ k * 2 ^ k : Nat) : Int) := by simp
  rw [e]
  unfold Builtin.bitXor
  rw [bitAnd_nat, bitOr_nat, nat_hi_or, nat_hi_and]
  have h3 := Nat.div_add_mod n (2 ^ k)
  have h4 : ((n : Int) % 2 ^ k) = ((n % 2 ^ k : Nat) : Int) := by simp
  rw [h4]
  rw [Nat.mul_comm] at h3
  omega
end
section -- M2
open PySem
theorem mod_div_mod {x : Int} {a b c : Nat} (h : b + c ≤ a) : (x % 2 ^ a) / 2 ^ b % 2 ^ c = x / 2 ^ b % 2 ^ c := by
  obtain ⟨k, rfl⟩ := Nat.exists_eq_add_of_le h
  have hb : (2 : Int) ^ b ≠ 0 := Int.ne_of_gt (Int.pow_pos (by decide))
  have e : x = x % 2 ^ (b + c + k) + 2 ^ b * (2 ^ c * (2 ^ k * (x / 2 ^ (b + c + k)))) := by
    have := Int.emod_add_mul_ediv x (2 ^ (b + c + k))
    rw [Int.pow_add, Int.pow_add] at this ⊢
    rw [← Int.mul_assoc, ← Int.mul_assoc]
    omega
  conv => rhs; rw [e]
  rw [Int.add_mul_ediv_left _ _ hb, Int.add_mul_emod_self_left]
theorem div_div_pow {x : Int} {a b : Nat} : x / 2 ^ a / 2 ^ b = x / 2 ^ (a + b) := by
  rw [Int.pow_add, Int.ediv_ediv_of_nonneg (Int.le_of_lt (Int.pow_pos (by decide)))]
theorem hi_lt {x : Int} {a b : Nat} (h : x < 2 ^ (a + b)) : x / 2 ^ a < 2 ^ b := by
  rw [Int.pow_add, Int.mul_comm] at h
  exact Int.ediv_lt_of_lt_mul (Int.pow_pos (by decide)) h
end
section -- A2a
set_option maxHeartbeats 8000000
section
variable {prog : Program} {w : World} {A : Around} {E : Value → Shared → Prop} {s : Shared} {a b c : Int} {t u : Tok} {Q : Value → Shared → Prop}
theorem intBits_pow {a : Int} (h0 : 0 ≤ a) {k : Nat} (hk : Builtin.Int.intBits a ≤ k) : a < 2 ^ k := by
  obtain ⟨n, rfl⟩ := Int.eq_ofNat_of_zero_le h0
  have : n < 2 ^ k := by
    unfold Builtin.Int.intBits at hk
    by_cases hn : n = 0
    · subst hn; exact Nat.two_pow_pos k
    · have e : ((n : Int) == 0) = false := by simp [hn]
      rw [e] at hk
      simp only [Bool.false_eq_true, if_false, Int.natAbs_natCast] at hk
      exact (Nat.log2_lt hn).mp (by omega)
  exact_mod_cast this
theorem rsh_as (ha : 0 ≤ a) (hb : 0 ≤ b) (e : a / 2 ^ b.toNat = c) (h : ∀ t, Q (.int c t) { s with toks := s.toks + 1 }) : wpAny (model prog w) A (binaryOp .RShift (.int a t) (.int b u)) Q E s := by
  subst e
  refine rshift_int hb ?_
  rw [Int.fdiv_eq_ediv_of_nonneg _ (Int.le_of_lt (Int.pow_pos (by decide)))]
  exact h _
theorem lsh_as (ha : 0 ≤ a) (ha2 : a < 2 ^ 60) (hb : 0 ≤ b) (hb2 : b ≤ 1000000) (e : a * 2 ^ b.toNat = c) (h : ∀ t, Q (.int c t) { s with toks := s.toks + 1 }) : wpAny (model prog w) A (binaryOp .LShift (.int a t) (.int b u)) Q E s := by
  subst e
  exact lshift_int_small hb hb2 (by omega) (h _)
theorem mul_as (ha : 0 ≤ a) (ha2 : a < 2 ^ 60) (e : a * b = c) (h : ∀ t, Q (.int c t) { s with toks := s.toks + 1 }) : wpAny (model prog w) A (binaryOp .Mult (.int a t) (.int b u)) Q E s := by
  subst e
  exact mul_int (h _)
theorem xor_as (e : Builtin.bitXor a b = c) (h : ∀ t, Q (.int c t) { s with toks := s.toks + 1 }) : wpAny (model prog w) A (binaryOp .BitXor (.int a t) (.int b u)) Q E s := by
  subst e
  exact xor_int (h _)
end
structure FnLit where
  params : Arguments
  body : List Stmt
  scope : Scope
  pos : Pos
def innerLit (P : Params) : { q : FnLit // ∃ oc od name qual params s1 rest scope dV kV doc pm an cdv ct osl, (hd.heap_39 P).lookup 42 = some ⟨oc, od, .func (fnOf name qual params (s1 :: .FunctionDef (Str.ofString "inner") q.params q.body [] none [] q.scope none (Str.ofString "inner") q.pos :: rest) scope dV kV doc pm an cdv ct), osl⟩ } := 
  ⟨⟨_, _, _, _⟩, _, _, _, _, _, _, _, _, _, _, _, _, _, _, _, _, rfl⟩
abbrev innerQ : Str := Str.ofString "_int2digits" ++ ".<locals>." ++ Str.ofString "inner"
def innerFn (P : Params) (ca ci cn : Addr) (doc pm : Value) (c' : Addr) (ctv : Value) : Obj :=
  fnMade (Str.ofString "inner") innerQ (innerLit P).1.params (innerLit P).1.body (innerLit P).1.scope [(Str.ofString "n", cn), (Str.ofString "inner", ci), (Str.ofString "a_digits", ca)] doc pm c' ctv
def Dig (n : Nat) (ns : List Int) (L R : Nat) (x : Int) (ns' : List Int) : Prop :=
  ns'.length = ns.length ∧ ∀ j, j < ns.length → ns'[j]? = if L ≤ j ∧ j < R then some ((x / 2 ^ (n * (j - L))) % 2 ^ n) else ns[j]?
end
section -- A2
set_option maxHeartbeats 8000000
theorem codeRec_kb {h h' : Heap} {ex : List Addr} {v : Value} {q : Str} (c : h.CodeRec v q) (k : KB ex h h') (off : ∀ a ∈ ex, ∀ o, h.get? a = some o → ∀ vs, o.data ≠ .fields vs) : h'.CodeRec v q := by
  obtain ⟨c, oc, vs, t, e, ho, hd, hv⟩ := c
  exact ⟨c, oc, vs, t, e, k _ _ (fun q => off _ q _ ho _ hd) ho, hd, hv⟩
theorem dig_one {n : Nat} {ns : List Int} {L : Nat} {x : Int} (h0 : 0 ≤ x) (hx : x < 2 ^ n) (hL : L < ns.length) : Dig n ns L (L + 1) x (ns.set ((L : Int)).toNat x) := by
  refine ⟨by simp, fun j hj => ?_⟩
  rw [Int.toNat_natCast, List.getElem?_set]
  by_cases h : L = j
  · subst h
    simp only [if_true, hL, Nat.le_refl, Nat.lt_succ_self, and_self, Nat.sub_self, Nat.mul_zero, Int.pow_zero, Int.ediv_one]
    rw [Int.emod_eq_of_lt h0 hx]
  · rw [if_neg h, if_neg (by omega)]
theorem dig_two {n : Nat} {ns ns1 ns2 : List Int} {L M R sh : Nat} {x lo up : Int} (d1 : Dig n ns L M lo ns1) (d2 : Dig n ns1 M R up ns2) (hlo : lo = x % 2 ^ sh) (hup : up = x / 2 ^ sh) (hsh : sh = (M - L) * n) (hLM : L < M) (hMR : M < R) : Dig n ns L R x ns2 := by
  refine ⟨d2.1.trans d1.1, fun j hj => ?_⟩
  rw [d2.2 j (by rw [d1.1]; exact hj), d1.2 j hj]
  by_cases h1 : M ≤ j ∧ j < R
  · rw [if_pos h1, if_pos (by omega), hup, div_div_pow]
    have : sh + n * (j - M) = n * (j - L) := by rw [hsh, Nat.mul_comm _ n, ← Nat.mul_add]; congr 1; omega
    rw [this]
  · rw [if_neg h1]
    by_cases h2 : L ≤ j ∧ j < M
    · rw [if_pos h2, if_pos (by omega), hlo, mod_div_mod]
      rw [hsh]
      have : n * (j - L) + n = (j - L + 1) * n := by rw [Nat.add_mul, Nat.one_mul, Nat.mul_comm]
      rw [this]
      exact Nat.mul_le_mul_right _ (by omega)
    · rw [if_neg h2, if_neg (by omega)]
-- the walk's arithmetic, each value by its own name
local macro_rules | `(tactic| walk_at "binaryOp RShift int int") => `(tactic| (refine rsh_as (by omega) (by omega) (by assumption) ?_; intro t'))
local macro_rules | `(tactic| walk_at "binaryOp LShift int int") => `(tactic| (refine lsh_as (by omega) (by omega) (by omega) (by omega) (by assumption) ?_; intro t'))
local macro_rules | `(tactic| walk_at "binaryOp Mult int int") => `(tactic| (refine mul_as (by omega) (by omega) (by assumption) ?_; intro t'))
local macro_rules | `(tactic| walk_at "binaryOp BitXor int int") => `(tactic| (refine xor_as (by assumption) ?_; intro t'))
theorem inner_H {w : World} {p : Program} {loose : List Str} {mean : ExcName → Option Value} {mg mb : Str → Option Value} {g₀ : Heap} (G : Gd w p loose mean mg mb g₀)
   {n : Nat} (hn1 : 1 ≤ n) (hn2 : n ≤ 20) {f c' ca ci cn d : Addr} {oa oi on : Obj} {doc pm ctv : Value} {tn : Tok} :
   ∀ (k : Nat) {dp un : Nat} {fr : Option (List Env)} {gd : Option (List Code)} {s : Shared} {Q E : Value → Shared → Prop} {vs : List Value} {ns : List Int} {ep : Nat} {x : Int} {L R : Nat} {tx tL tR : Tok} (hs : Sub g₀ s.heap)
   (hf : s.heap.get? f = some (innerFn w.params ca ci cn doc pm c' ctv)) (hcd : s.heap.CodeRec (.ref c') innerQ)
   (ha : s.heap.get? ca = some oa) (ha' : oa.data = .cell (some (.ref d))) (hi : s.heap.get? ci = some oi) (hi' : oi.data = .cell (some (.ref f))) (hn : s.heap.get? cn = some on) (hn' : on.data = .cell (some (.int (n : Int) tn)))
   (hd : s.heap.get? d = some (listOf vs.toArray ep)) (hv : IntsAre vs ns) (hg : g₀.get? d = none ∧ g₀.get? f = none ∧ g₀.get? ca = none ∧ g₀.get? ci = none ∧ g₀.get? cn = none) 
   (hLR : L < R) (hR : R ≤ ns.length) (hlen : ns.length ≤ 64) (hk : R - L ≤ k) (hx0 : 0 ≤ x) (hx : x < 2 ^ (n * (R - L))) (hx60 : x < 2 ^ 60)
   (hdp : dp + k + 10 < recursionLimit) (hun : un + 8 * k + 50 < cLine)
   (hret : ∀ vs' ns' ep' h' tk', KB [d] s.heap h' → h'.get? d = some (listOf vs'.toArray ep') → IntsAre vs' ns' → Dig n ns L R x ns' → Q .none { s with heap := h', toks := tk' }),
   wpAny (model PySem.Challenge.rw_ph0093_01.row.prog w) (AA dp un fr gd) (call (.ref f) [.int x tx, .int (L : Int) tL, .int (R : Int) tR]) Q E s := by
  intro k
  induction k with
  | zero => intros; omega
  | succ k ih =>
    intro dp un fr gd s Q E vs ns ep x L R tx tL tR hs hf hcd ha ha' hi hi' hn hn' hd hv hg hLR hR hlen hk hx0 hx hx60 hdp hun hret
    have X := G.X
    have T := G.T
    have c1 := G.c1
    revert X; k_fill; intro X
    have e1 : @Ne Nat f d := Ne.symm <| fun q => by
      rw [q, hf] at hd
      have := congrArg Obj.data (Option.some.inj hd)
      cases this
    have e2 : @Ne Nat ca d := Ne.symm <| fun q => by rw [q, ha] at hd; cases hd; cases ha'
    have e3 : @Ne Nat ci d := Ne.symm <| fun q => by rw [q, hi] at hd; cases hd; cases hi'
    have e4 : @Ne Nat cn d := Ne.symm <| fun q => by rw [q, hn] at hd; cases hd; cases hn'
    obtain ⟨M, hM⟩ : ∃ M : Nat, M = (L + R) / 2 := ⟨_, rfl⟩
    obtain ⟨sh, hsh⟩ : ∃ sh : Nat, sh = (M - L) * n := ⟨_, rfl⟩
    obtain ⟨up, f3⟩ : ∃ up : Int, x / 2 ^ ((sh : Int)).toNat = up := ⟨_, rfl⟩
    obtain ⟨ups, f4⟩ : ∃ ups : Int, up * 2 ^ ((sh : Int)).toNat = ups := ⟨_, rfl⟩
    obtain ⟨lo, f5⟩ : ∃ lo : Int, Builtin.bitXor x ups = lo := ⟨_, rfl⟩
    have f1 : ((L : Int) + (R : Int)) / 2 ^ (1 : Int).toNat = (M : Int) := by simp; omega
    have f2 : ((M : Int) - (L : Int)) * (n : Int) = (sh : Int) := by rw [hsh, Int.natCast_mul, Int.natCast_sub (by omega)]
    have hpw : (0 : Int) < 2 ^ sh := Int.pow_pos (by decide)
    rw [Int.toNat_natCast] at f3
    have hup0 : 0 ≤ up := by rw [← f3]; exact Int.ediv_nonneg hx0 (Int.le_of_lt hpw)
    have hupx : up ≤ x := by rw [← f3]; exact Int.ediv_le_self _ hx0
    have hshb : sh ≤ 1280 := by rw [hsh]; exact Nat.le_trans (Nat.mul_le_mul (show M - L ≤ 64 by omega) hn2) (by decide)
    have hlo : lo = x % 2 ^ sh := by rw [← f5, ← f4, ← f3, Int.toNat_natCast, xor_low hx0]
    have hf2 := hf
    unfold innerFn at hf2
    refine enterH (binds := [(Str.ofString "x", .int x tx), (Str.ofString "L", .int (L : Int) tL), (Str.ofString "R", .int (R : Int) tR)]) [(d, listOf vs.toArray ep), (f, innerFn w.params ca ci cn doc pm c' ctv), (ca, oa), (ci, oi), (cn, on)]
      (by simp only [List.forall_mem_cons, List.not_mem_nil, false_imp_iff, implies_true, and_true]; exact ⟨hd, hf, ha, hi, hn⟩) (T.nolimit.keeps hs) hf2 rfl hcd (by omega) rfl (locs rfl) ?_ (by dsimp only [innerLit]; decide) rfl rfl rfl
    intro g L' h₁ F N kb sb hL hl
    k_lt hl
    have sg : Sub g₀ g := fun b o e => kb b o (by
        simp only [List.map_cons, List.map_nil, List.mem_cons, List.not_mem_nil, or_false, not_or]
        refine ⟨?_, ?_, ?_, ?_, ?_⟩ <;> (intro q; subst q; simp [hg] at e)) (hs b o e)
    have hcg : g.CodeRec (.ref c') innerQ := codeRec_kb hcd kb (by
      simp only [List.map_cons, List.map_nil, List.forall_mem_cons, List.not_mem_nil, false_imp_iff, implies_true, and_true]
      refine ⟨?_, ?_, ?_, ?_, ?_⟩ <;> (intro o ho vs' hd')
      · rw [hd] at ho; cases ho; cases hd'
      · rw [hf] at ho; cases ho; cases hd'
      · rw [ha] at ho; cases ho; rw [ha'] at hd'; cases hd'
      · rw [hi] at ho; cases ho; rw [hi'] at hd'; cases hd'
      · rw [hn] at ho; cases ho; rw [hn'] at hd'; cases hd')
    have X' := X.keeps sg
    have T' := T.keeps sg
    have c1' := c1.keeps sg
    clear X T c1
    unfold innerFn at N
    dsimp only [innerLit, W.listOf] at N ⊢
    (try k_fold)
    rw [← Int.toNat_natCast sh] at f3
    k_steps
    · dsimp only
      rename Fr _ _ _ _ => F9
      rename News _ _ _ _ => N9
      rename IntsAre _ _ => I9
      have eR : R = L + 1 := by omega
      subst eR
      refine hret _ _ _ _ _ ?_ (N9 _ (.head _)).1 I9 ?_
      · intro b o hb e
        by_cases hq : b ∈ [d, f, ca, ci, cn]
        · simp only [List.mem_cons, List.not_mem_nil, or_false] at hq hb
          rcases hq with rfl | rfl | rfl | rfl | rfl
          · exact absurd rfl hb
          · rw [hf] at e; cases e; exact (N9 _ (.tail _ (.head _))).1
          · rw [ha] at e; cases e; exact (N9 _ (.tail _ (.tail _ (.head _)))).1
          · rw [hi] at e; cases e; exact (N9 _ (.tail _ (.tail _ (.tail _ (.head _))))).1
          · rw [hn] at e; cases e; exact (N9 _ (.tail _ (.tail _ (.tail _ (.tail _ (.head _)))))).1
        · exact F9.keep b o (kb b o hq e)
      · exact dig_one hx0 (by simpa using hx) (by omega)
    · have hLM : L < M := by omega
      have hMR : M < R := by omega
      have eb : (2 : Int) ^ (n * (M - L)) = 2 ^ sh := by rw [hsh, Nat.mul_comm]
      have hlo0 : 0 ≤ lo := by rw [hlo]; exact Int.emod_nonneg _ (Int.ne_of_gt hpw)
      have hlo1 : lo < 2 ^ sh := by rw [hlo]; exact Int.emod_lt_of_pos _ hpw
      have hlox : lo ≤ x := by
        rw [hlo]
        have h1 := Int.emod_add_mul_ediv x (2 ^ sh)
        have h2 := Int.mul_nonneg (Int.le_of_lt hpw) (Int.ediv_nonneg hx0 (Int.le_of_lt hpw))
        omega
      rw [Int.toNat_natCast] at f3
      have hupb : up < 2 ^ (n * (R - M)) := by
        rw [← f3]; refine hi_lt ?_
        have : sh + n * (R - M) = n * (R - L) := by rw [hsh, Nat.mul_comm _ n, ← Nat.mul_add]; congr 1; omega
        rw [this]; exact hx
      rename Fr _ _ _ _ => F1
      rename News _ _ _ _ => N1
      refine ih (fun b o e => F1.keep b o (sg b o e)) (N1 _ (.tail _ (.head _))).1 (hcg.keeps F1.keep) (N1 _ (.tail _ (.tail _ (.head _)))).1 ha' (N1 _ (.tail _ (.tail _ (.tail _ (.head _))))).1 hi' (N1 _ (.tail _ (.tail _ (.tail _ (.tail _ (.head _)))))).1 hn'
        (N1 _ (.head _)).1 hv hg hLM (by omega) hlen (by omega) hlo0 (by rw [eb]; exact hlo1) (by omega) (by ktr_room) (by ktr_units) ?_
      intro vs1 ns1 ep1 h1 tk1 kb1 hd1 hv1 dg1
      have F2 := fr_kb F1 kb1 (by have := (N1 _ (.head _)).2.1; simpa using Ne.symm this) (by have := (N1 _ (.head _)).2.2; simpa using this)
      have N2 := news_cons hd1 (N1 _ (.head _)).2.1 (N1 _ (.head _)).2.2 (news_kb (fun p hp => N1 p (.tail _ hp)) kb1 (by
        intro p hp
        simp only [List.mem_cons, List.not_mem_nil, or_false] at hp ⊢
        rcases hp with rfl | rfl | rfl | rfl <;> assumption))
      clear F1 N1
      k_steps
      rename Fr _ _ _ _ => F1
      rename News _ _ _ _ => N1
      have hl1 := dg1.1
      refine ih (fun b o e => F1.keep b o (sg b o e)) (N1 _ (.tail _ (.head _))).1 (hcg.keeps F1.keep) (N1 _ (.tail _ (.tail _ (.head _)))).1 ha' (N1 _ (.tail _ (.tail _ (.tail _ (.head _))))).1 hi' (N1 _ (.tail _ (.tail _ (.tail _ (.tail _ (.head _)))))).1 hn'
        (N1 _ (.head _)).1 hv1 hg hMR (by omega) (by omega) (by omega) hup0 hupb (by omega) (by ktr_room) (by ktr_units) ?_
      intro vs2 ns2 ep2 h2 tk2 kb2 hd2 hv2 dg2
      have F2 := fr_kb F1 kb2 (by have := (N1 _ (.head _)).2.1; simpa using Ne.symm this) (by have := (N1 _ (.head _)).2.2; simpa using this)
      have N2 := news_cons hd2 (N1 _ (.head _)).2.1 (N1 _ (.head _)).2.2 (news_kb (fun p hp => N1 p (.tail _ hp)) kb2 (by
        intro p hp
        simp only [List.mem_cons, List.not_mem_nil, or_false] at hp ⊢
        rcases hp with rfl | rfl | rfl | rfl <;> assumption))
      clear F1 N1
      k_steps
      rename Fr _ _ _ _ => F9
      rename News _ _ _ _ => N9
      refine hret _ _ _ _ _ ?_ (N9 _ (.head _)).1 hv2 ?_
      · intro b o hb e
        by_cases hq : b ∈ [d, f, ca, ci, cn]
        · simp only [List.mem_cons, List.not_mem_nil, or_false] at hq hb
          rcases hq with rfl | rfl | rfl | rfl | rfl
          · exact absurd rfl hb
          · rw [hf] at e; cases e; exact (N9 _ (.tail _ (.head _))).1
          · rw [ha] at e; cases e; exact (N9 _ (.tail _ (.tail _ (.head _)))).1
          · rw [hi] at e; cases e; exact (N9 _ (.tail _ (.tail _ (.tail _ (.head _))))).1
          · rw [hn] at e; cases e; exact (N9 _ (.tail _ (.tail _ (.tail _ (.tail _ (.head _)))))).1
        · exact F9.keep b o (kb b o hq e)
      · refine dig_two dg1 dg2 hlo f3.symm hsh hLM hMR
end
section -- A3
set_option maxHeartbeats 8000000
/-- a table of code objects, with its one code -/
def TabF (h : Heap) (P : Addr) (pos : Pos) (q : Str) : Prop := ∃ c, h.get? P = some (tabObj #[rawInt pos.line, rawInt pos.col, .ref c]) ∧ h.CodeRec (.ref c) q
theorem TabF.keep {h h' : Heap} {P : Addr} {pos : Pos} {q : Str} (t : TabF h P pos q) (k : Sub h h') : TabF h' P pos q :=
  let ⟨c, a, b⟩ := t; ⟨c, k _ _ a, b.keeps k⟩
def digs (n : Nat) (a : Int) (m : Nat) : List Int := (List.range m).map fun j => a / 2 ^ (n * j) % 2 ^ n
theorem fdiv_as {prog : Program} {w : World} {A : Around} {E : Value → Shared → Prop} {s : Shared} {a b c : Int} {t u : Tok} {Q : Value → Shared → Prop} (hb : 0 < b) (hb2 : b < 2 ^ 20) (e : a / b = c) (h : ∀ t, Q (.int c t) { s with toks := s.toks + 1 }) : wpAny (model prog w) A (binaryOp .FloorDiv (.int a t) (.int b u)) Q E s := by
  subst e
  refine floordiv_int (by omega) ?_ (Or.inl (PyProof.noPylong_small (by omega)))
  rw [Int.fdiv_eq_ediv_of_nonneg _ (by omega)]
  exact h _
local macro_rules | `(tactic| walk_at "binaryOp FloorDiv int int") => `(tactic| (refine fdiv_as (by omega) (by omega) (by assumption) ?_; intro t'))
local macro_rules | `(tactic| tb_start) => `(tactic| ((case X => k_asm); (case T => k_asm); (case hs => k_asm); (case ho => k_is); (case hcd => k_is); (case hroom => ktr_room); (case hb => exact rfl); (case kB => exact rfl); (case kD => decide +kernel); (case c2 => exact rfl); (case c3 => exact rfl); (case c4 => exact rfl)))
theorem flat_one {α : Type} (m : Nat) (v : α) : (List.replicate m [v]).flatten = List.replicate m v := by
  induction m with
  | zero => rfl
  | succ m ih => rw [List.replicate_succ, List.flatten_cons, ih, List.replicate_succ]; rfl
theorem none_of {g₀ g : Heap} {x : Addr} (sg : Sub g₀ g) (h : g.get? x = none) : g₀.get? x = none := by
  cases e : g₀.get? x with
  | none => rfl
  | some o => rw [sg _ _ e] at h; cases h
theorem news_rep {g h h' : Heap} {L d : Addr} {o o' : Obj} {news news' : List (Addr × Obj)} (N : News g L h news) (U : Upd d o o' news news') (kb : KB [d] h h') (e : h'.get? d = some o') : News g L h' news' := by
  obtain ⟨pre, post, rfl, rfl, a, b⟩ := U.split
  have z := N (d, o) (List.mem_append.mpr (.inr (.head _)))
  intro p hp
  rcases List.mem_append.mp hp with hp | hp
  · exact ⟨kb _ _ (by simpa using a p hp) (N p (List.mem_append.mpr (.inl hp))).1, (N p (List.mem_append.mpr (.inl hp))).2⟩
  · rcases List.mem_cons.mp hp with rfl | hp
    · exact ⟨e, z.2⟩
    · have q := N p (List.mem_append.mpr (.inr (.tail _ hp)))
      exact ⟨kb _ _ (by simpa using b p hp) q.1, q.2⟩
theorem intBits_pos {a : Int} (h : a ≠ 0) : 1 ≤ Builtin.Int.intBits a := by
  unfold Builtin.Int.intBits
  rw [show (a == 0) = false by simpa using h]
  simp
theorem dig_all {n m : Nat} {a : Int} {ns : List Int} (d : Dig n (List.replicate m 0) 0 m a ns) : ns = digs n a m := by
  obtain ⟨hl, hg⟩ := d
  simp only [List.length_replicate] at hl hg
  refine List.ext_getElem? fun j => ?_
  by_cases hj : j < m
  · rw [hg j hj, if_pos (by omega)]
    simp [digs, hj]
  · rw [List.getElem?_eq_none (by omega), List.getElem?_eq_none (by simp [digs]; omega)]
theorem sub37 {h g h9 : Heap} {L' P : Addr} {o : Obj} {m : Str → Option Value} (kb : KB [P] h g) (F : Fr g L' h9 m) (e : h.get? P = some o) (e9 : h9.get? P = some o) : Sub h h9 := fun b o' eb => by
  by_cases hb : b = P
  · subst hb; rw [e] at eb; cases eb; exact e9
  · exact F.keep b o' (kb b o' (by simpa using hb) eb)
theorem i2d_W {w : World} {p : Program} {loose : List Str} {mean : ExcName → Option Value} {mg mb : Str → Option Value} {g₀ : Heap} (G : Gd w p loose mean mg mb g₀)
   {n : Nat} (hn1 : 1 ≤ n) (hn2 : n ≤ 20) {tn ta : Tok} {a : Int} (ha0 : 0 ≤ a) (ha1 : a < 2 ^ 60)
   {dp un : Nat} {fr : Option (List Env)} {gd : Option (List Code)} {s : Shared} {Q E : Value → Shared → Prop} (hs : Sub g₀ s.heap) (ht : TabF s.heap 37 (innerLit w.params).1.pos innerQ)
   (hdp : dp + 100 < recursionLimit) (hun : un + 1000 < cLine)
   (hret : ∀ D vs ep h' tk', Sub s.heap h' → s.heap.objs.size ≤ D → h'.get? D = some (listOf vs.toArray ep) → IntsAre vs (digs n a ((Builtin.Int.intBits a + n - 1) / n)) → Q (.ref D) { s with heap := h', toks := tk' }) :
   wpAny (model PySem.Challenge.rw_ph0093_01.row.prog w) (AA dp un fr gd) (call (.ref 42) [.int a ta, .int (n : Int) tn]) Q E s := by
  have X := G.X
  have T := G.T
  have hb1 := intBits_le ha0 ha1
  revert X; k_fill; intro X
  obtain ⟨c, hps, hc⟩ := ht
  obtain ⟨mm, hmm⟩ : ∃ mm : Nat, mm = (Builtin.Int.intBits a + n - 1) / n := ⟨_, rfl⟩
  have fdm : (((Builtin.Int.intBits a : Nat) : Int) + (n : Int) - 1) / (n : Int) = (mm : Int) := by
    rw [hmm, Int.natCast_ediv]; congr 1; omega
  have hmb : mm ≤ 60 := by
    rw [hmm]; refine Nat.le_trans (Nat.div_le_div_right (c := n) (show Builtin.Int.intBits a + n - 1 ≤ 60 * n by have := Nat.mul_le_mul_left 59 hn1; omega)) ?_
    rw [Nat.mul_div_cancel _ (by omega)]
    exact Nat.le_refl _
  have hmpos : a ≠ 0 → 0 < mm := fun h => by
    have := intBits_pos h
    rw [hmm]; exact Nat.div_pos (by omega) (by omega)
  have hmlt : a < 2 ^ (n * (mm - 0)) := by
    refine intBits_pow ha0 ?_
    have := Nat.lt_mul_div_succ (Builtin.Int.intBits a + n - 1) (show 0 < n by omega)
    rw [← hmm, Nat.mul_add] at this
    rw [Nat.sub_zero]; omega
  k_dflt (refine' enterKC (binds := [(Str.ofString "a", .int a ta), (Str.ofString "n", .int (n : Int) tn)]) [(37, tabObj #[rawInt (innerLit w.params).1.pos.line, rawInt (innerLit w.params).1.pos.col, .ref c])] (List.forall_mem_cons.mpr ⟨hps, fun _ h => nomatch h⟩) ?X ?T ?hs (List.forall_mem_cons.mpr ⟨G.n1, fun _ h => nomatch h⟩) ?ho ?hcd ?hroom ?hb ?kB ?kD ?_ ?c2 ?c3 ?c4; tb_start)
  intro g L' h₁ tk cells F N Y kb sb sg X' T' hL hl
  have c1' := G.c1.keeps sg
  have hcg : g.CodeRec (.ref c) innerQ := by
    obtain ⟨c', oc, vs, t, e, ho, hd, hv⟩ := hc
    refine ⟨c', oc, vs, t, e, kb _ _ (fun q => ?_) ho, hd, hv⟩
    simp only [List.map_cons, List.map_nil, List.mem_singleton] at q
    subst q
    rw [hps] at ho
    cases ho
    cases hd
    simp [rawInt] at hv
  dsimp only [innerLit] at N
  k_lt hl
  k_cells Y
  (try simp only [List.cons_append, List.nil_append] at N)
  (try dsimp only)
  (try k_fold)
  k_steps
  · rename Fr _ _ _ _ => F1
    rename News _ _ _ _ => N1
    rename IntsAre _ _ => I1
    rename (List.flatten (List.replicate _ [(0 : Int)])).length = _ => e1
    rename a ≠ 0 => ha
    have e1' := e1
    simp only [flat_one, Int.toNat_natCast, List.length_replicate] at e1' I1
    subst e1'
    refine inner_H G hn1 hn2 64 (L := 0) (fun b o e => F1.keep b o (sg b o e)) (N1 _ (.head _)).1 (hcg.keeps F1.keep)
      (N1 _ (.tail _ (.tail _ (.tail _ (.tail _ (.head _)))))).1 (by assumption) (N1 _ (.tail _ (.tail _ (.tail _ (.head _))))).1 (by assumption) (N1 _ (.tail _ (.tail _ (.tail _ (.tail _ (.tail _ (.head _))))))).1 (by assumption)
      (N1 _ (.tail _ (.head _))).1 (ns := List.replicate mm 0) (by simpa only [flat_one, Int.toNat_natCast] using I1) ?_ ?_ ?_ ?_ ?_ ha0 ?_ ha1 (by ktr_room) (by ktr_units) ?_
    · exact ⟨none_of sg (N1 _ (.tail _ (.head _))).2.2, none_of sg (N1 _ (.head _)).2.2, none_of sg (N1 _ (.tail _ (.tail _ (.tail _ (.tail _ (.head _)))))).2.2, none_of sg (N1 _ (.tail _ (.tail _ (.tail _ (.head _))))).2.2, none_of sg (N1 _ (.tail _ (.tail _ (.tail _ (.tail _ (.tail _ (.head _))))))).2.2⟩
    · exact hmpos ha
    · rw [List.length_replicate]; exact Nat.le_refl _
    · rw [List.length_replicate]; omega
    · omega
    · exact hmlt
    · intro vs1 ns1 ep1 h1 tk1 kb1 hd1 hv1 dg1
      have F2 := fr_kb F1 kb1 (by have := (N1 _ (.tail _ (.head _))).2.1; simpa using Ne.symm this) (by have := (N1 _ (.tail _ (.head _))).2.2; simpa using this)
      have N2 := news_rep N1 (by k_upd) kb1 hd1
      clear F1 N1
      k_steps
      rename Fr _ _ _ _ => F9
      rename News _ _ _ _ => N9
      refine hret _ _ _ _ _ (sub37 kb F9 hps (N9 _ (.tail _ (.tail _ (.tail _ (.tail _ (.tail _ (.tail _ (.head _)))))))).1) ?_ (N9 _ (.tail _ (.head _))).1 ?_
      · rw [hL]; omega
      · rw [← hmm, ← dig_all dg1]; exact hv1
  · dsimp only
    rename Fr _ _ _ _ => F9
    rename News _ _ _ _ => N9
    rename IntsAre _ _ => I1
    rename a = 0 => ha
    simp only [flat_one, Int.toNat_natCast] at I1
    refine hret _ _ _ _ _ (sub37 kb F9 hps (N9 _ (.tail _ (.tail _ (.tail _ (.tail _ (.tail _ (.tail _ (.head _)))))))).1) ?_ (N9 _ (.tail _ (.head _))).1 ?_
    · rw [hL]; omega
    · have h0 : (Builtin.Int.intBits a + n - 1) / n = 0 := by rw [ha]; exact Nat.div_eq_of_lt (by simp [Builtin.Int.intBits]; omega)
      rw [h0]
      rw [h0] at hmm
      subst hmm
      exact IntsAre.nil
theorem i2d_C {w : World} {p : Program} {loose : List Str} {mean : ExcName → Option Value} {mg mb : Str → Option Value} {g₀ : Heap} (G : Gd w p loose mean mg mb g₀)
   {n : Nat} (hn1 : 1 ≤ n) (hn2 : n ≤ 20) {tn ta : Tok}
   {dp un : Nat} {fr : Option (List Env)} {gd : Option (List Code)} {s : Shared} {Q E : Value → Shared → Prop} (hs : Sub g₀ s.heap) (hps : s.heap.get? 37 = some (tabObj #[]))
   (hdp : dp + 100 < recursionLimit) (hun : un + 1000 < cLine)
   (hret : ∀ D ep h' tk' c oc vs t, KB [37] s.heap h' → s.heap.objs.size ≤ D → h'.get? D = some (listOf #[] ep) → h'.get? 37 = some (tabObj #[rawInt (innerLit w.params).1.pos.line, rawInt (innerLit w.params).1.pos.col, .ref c]) → s.heap.objs.size ≤ c → h'.get? c = some oc → oc.data = .fields vs → vs[1]? = some (.str innerQ t) → @Ne Nat c D → Q (.ref D) { s with heap := h', toks := tk' }) :
   wpAny (model PySem.Challenge.rw_ph0093_01.row.prog w) (AA dp un fr gd) (call (.ref 42) [.int 0 ta, .int (n : Int) tn]) Q E s := by
  have X := G.X
  have T := G.T
  revert X; k_fill; intro X
  have fdm : (((Builtin.Int.intBits 0 : Nat) : Int) + (n : Int) - 1) / (n : Int) = ((0 : Nat) : Int) := by
    simp [Builtin.Int.intBits]
    exact Int.ediv_eq_zero_of_lt (by omega) (by omega)
  k_dflt (refine' enterKC (binds := [(Str.ofString "a", .int 0 ta), (Str.ofString "n", .int (n : Int) tn)]) [(37, tabObj #[])] (List.forall_mem_cons.mpr ⟨hps, fun _ h => nomatch h⟩) ?X ?T ?hs (List.forall_mem_cons.mpr ⟨G.n1, fun _ h => nomatch h⟩) ?ho ?hcd ?hroom ?hb ?kB ?kD ?_ ?c2 ?c3 ?c4; tb_start)
  intro g L' h₁ tk cells F N Y kb sb sg X' T' hL hl
  have c1' := G.c1.keeps sg
  k_lt hl
  k_cells Y
  (try simp only [List.cons_append, List.nil_append] at N)
  (try dsimp only)
  (try k_fold)
  k_steps
  dsimp only
  rename Fr _ _ _ _ => F9
  rename News _ _ _ _ => N9
  refine hret _ _ _ _ _ _ _ _ (fun b o hb e => F9.keep b o (kb b o hb e)) ?_ (N9 _ (.tail _ (.tail _ (.head _)))).1 (N9 _ (.tail _ (.tail _ (.tail _ (.tail _ (.tail _ (.tail _ (.tail _ (.head _))))))))).1 ?_ (N9 _ (.tail _ (.head _))).1 (by assumption) (by assumption) ?_
  · rw [hL]; omega
  · rw [hL]; omega
  · omega
end
section -- A4
set_option maxHeartbeats 8000000
def innerLit2 (P : Params) : { q : FnLit // ∃ oc od name qual params rest scope dV kV doc pm an cdv ct osl, (hd.heap_39 P).lookup 49 = some ⟨oc, od, .func (fnOf name qual params (.FunctionDef (Str.ofString "inner") q.params q.body [] none [] q.scope none (Str.ofString "inner") q.pos :: rest) scope dV kV doc pm an cdv ct), osl⟩ } := 
  ⟨⟨_, _, _, _⟩, _, _, _, _, _, _, _, _, _, _, _, _, _, _, _, rfl⟩
abbrev innerQ2 : Str := Str.ofString "_digits2int" ++ ".<locals>." ++ Str.ofString "inner"
def innerFn2 (P : Params) (cd ci cn : Addr) (doc pm : Value) (c' : Addr) (ctv : Value) : Obj :=
  fnMade (Str.ofString "inner") innerQ2 (innerLit2 P).1.params (innerLit2 P).1.body (innerLit2 P).1.scope [(Str.ofString "n", cn), (Str.ofString "inner", ci), (Str.ofString "digits", cd)] doc pm c' ctv
theorem ipow_le {a b : Nat} (h : a ≤ b) : (2 : Int) ^ a ≤ 2 ^ b := by exact_mod_cast Nat.pow_le_pow_right (by decide) h
/-- the number with these digits, the lowest first -/
def val (n : Nat) : List Int → Int
  | [] => 0
  | x :: xs => x + 2 ^ n * val n xs
theorem val_append (n : Nat) (a b : List Int) : val n (a ++ b) = val n a + 2 ^ (n * a.length) * val n b := by
  induction a with
  | nil => simp [val]
  | cons x xs ih =>
    rw [List.cons_append, val, ih, val, List.length_cons, Nat.mul_add, Nat.mul_one, Int.pow_add, Int.mul_add, ← Int.mul_assoc, Int.mul_comm (2 ^ n) (2 ^ (n * xs.length))]
    omega
theorem val_bound {n : Nat} {l : List Int} (h : ∀ x ∈ l, 0 ≤ x ∧ x < 2 ^ n) : 0 ≤ val n l ∧ val n l < 2 ^ (n * l.length) := by
  induction l with
  | nil => simp [val]
  | cons x xs ih =>
    obtain ⟨h1, h2⟩ := ih fun y hy => h y (.tail _ hy)
    obtain ⟨h3, h4⟩ := h x (.head _)
    have hp : (0 : Int) < 2 ^ n := Int.pow_pos (by decide)
    refine ⟨?_, ?_⟩
    · have := Int.mul_nonneg (Int.le_of_lt hp) h1
      rw [val]; omega
    · rw [val, List.length_cons, Nat.mul_add, Nat.mul_one, Int.pow_add, Int.mul_comm (2 ^ (n * xs.length))]
      have := Int.mul_le_mul_of_nonneg_left (show val n xs ≤ 2 ^ (n * xs.length) - 1 by omega) (Int.le_of_lt hp)
      rw [Int.mul_sub, Int.mul_one] at this
      omega
abbrev cut (ns : List Int) (L R : Nat) : List Int := (ns.drop L).take (R - L)
theorem cut_split {ns : List Int} {L M R : Nat} (h1 : L ≤ M) (h2 : M ≤ R) : cut ns L R = cut ns L M ++ cut ns M R := by
  unfold cut
  have e : R - L = (M - L) + (R - M) := by omega
  rw [e, List.take_add, List.drop_drop]
  congr 3
  omega
theorem cut_len {ns : List Int} {L R : Nat} (hR : R ≤ ns.length) : (cut ns L R).length = R - L := by
  simp [cut]; omega
theorem cut_mem {ns : List Int} {L R : Nat} {x : Int} (h : x ∈ cut ns L R) : x ∈ ns := List.mem_of_mem_drop (List.mem_of_mem_take h)
theorem cut_one {ns : List Int} {L : Nat} (h : L < ns.length) (n : Nat) : val n (cut ns L (L + 1)) = ns.getD L 0 := by
  have : cut ns L (L + 1) = [ns[L]] := by
    unfold cut
    rw [List.drop_eq_getElem_cons h, Nat.add_sub_cancel_left, List.take_succ_cons, List.take_zero]
  rw [this, val, val]
  simp [h]
-- the walk's arithmetic, each value by its own name
local macro_rules | `(tactic| walk_at "binaryOp RShift int int") => `(tactic| (refine rsh_as (by omega) (by omega) (by assumption) ?_; intro t'))
local macro_rules | `(tactic| walk_at "binaryOp LShift int int") => `(tactic| (refine lsh_as (by omega) (by omega) (by omega) (by omega) (by assumption) ?_; intro t'))
local macro_rules | `(tactic| walk_at "binaryOp Mult int int") => `(tactic| (refine mul_as (by omega) (by omega) (by assumption) ?_; intro t'))

theorem inner2_H {w : World} {p : Program} {loose : List Str} {mean : ExcName → Option Value} {mg mb : Str → Option Value} {g₀ : Heap} (G : Gd w p loose mean mg mb g₀)
   {n : Nat} (hn1 : 1 ≤ n) (hn2 : n ≤ 20) {f c' ca ci cn d : Addr} {oa oi on : Obj} {doc pm ctv : Value} {tn : Tok} {vs : List Value} {ns : List Int} {ep : Nat} (hv : IntsAre vs ns) (hb : ∀ x ∈ ns, 0 ≤ x ∧ x < 2 ^ n) (hnl : n * ns.length ≤ 60) (hlen : ns.length ≤ 64) :
   ∀ (k : Nat) {dp un : Nat} {fr : Option (List Env)} {gd : Option (List Code)} {s : Shared} {Q E : Value → Shared → Prop} {L R : Nat} {tL tR : Tok} (hs : Sub g₀ s.heap)
   (hf : s.heap.get? f = some (innerFn2 w.params ca ci cn doc pm c' ctv)) (hcd : s.heap.CodeRec (.ref c') innerQ2)
   (ha : s.heap.get? ca = some oa) (ha' : oa.data = .cell (some (.ref d))) (hi : s.heap.get? ci = some oi) (hi' : oi.data = .cell (some (.ref f))) (hn : s.heap.get? cn = some on) (hn' : on.data = .cell (some (.int (n : Int) tn)))
   (hd : s.heap.get? d = some (listOf vs.toArray ep)) (hg : g₀.get? d = none ∧ g₀.get? f = none ∧ g₀.get? ca = none ∧ g₀.get? ci = none ∧ g₀.get? cn = none) 
   (hLR : L < R) (hR : R ≤ ns.length) (hk : R - L ≤ k)
   (hdp : dp + k + 10 < recursionLimit) (hun : un + 8 * k + 50 < cLine)
   (hret : ∀ t h' tk', KB [] s.heap h' → Q (.int (val n (cut ns L R)) t) { s with heap := h', toks := tk' }),
   wpAny (model PySem.Challenge.rw_ph0093_01.row.prog w) (AA dp un fr gd) (call (.ref f) [.int (L : Int) tL, .int (R : Int) tR]) Q E s := by
  intro k
  induction k with
  | zero => intros; omega
  | succ k ih =>
    intro dp un fr gd s Q E L R tL tR hs hf hcd ha ha' hi hi' hn hn' hd hg hLR hR hk hdp hun hret
    have X := G.X
    have T := G.T
    have c1 := G.c2
    revert X; k_fill; intro X
    obtain ⟨M, hM⟩ : ∃ M : Nat, M = (L + R) / 2 := ⟨_, rfl⟩
    obtain ⟨sh, hsh⟩ : ∃ sh : Nat, sh = (M - L) * n := ⟨_, rfl⟩
    have f1 : ((L : Int) + (R : Int)) / 2 ^ (1 : Int).toNat = (M : Int) := by simp; omega
    have f2 : ((M : Int) - (L : Int)) * (n : Int) = (sh : Int) := by rw [hsh, Int.natCast_mul, Int.natCast_sub (by omega)]
    have hshb : sh ≤ 1280 := by rw [hsh]; exact Nat.le_trans (Nat.mul_le_mul (show M - L ≤ 64 by omega) hn2) (by decide)
    obtain ⟨up, hup⟩ : ∃ up : Int, up = val n (cut ns M R) := ⟨_, rfl⟩
    obtain ⟨ups, f4⟩ : ∃ ups : Int, up * 2 ^ ((sh : Int)).toNat = ups := ⟨_, rfl⟩
    obtain ⟨hub0, hub1⟩ : 0 ≤ up ∧ up < 2 ^ 60 := by
      have := val_bound (n := n) (l := cut ns M R) fun x hx => hb x (cut_mem hx)
      rw [← hup] at this
      refine ⟨this.1, Int.lt_of_lt_of_le this.2 ?_⟩
      rw [cut_len hR]
      exact ipow_le (Nat.le_trans (Nat.mul_le_mul_left n (show R - M ≤ ns.length by omega)) hnl)
    have hf2 := hf
    unfold innerFn2 at hf2
    refine enterH (binds := [(Str.ofString "L", .int (L : Int) tL), (Str.ofString "R", .int (R : Int) tR)]) [(d, listOf vs.toArray ep), (f, innerFn2 w.params ca ci cn doc pm c' ctv), (ca, oa), (ci, oi), (cn, on)]
      (by simp only [List.forall_mem_cons, List.not_mem_nil, false_imp_iff, implies_true, and_true]; exact ⟨hd, hf, ha, hi, hn⟩) (T.nolimit.keeps hs) hf2 rfl hcd (by omega) rfl (locs rfl) ?_ (by dsimp only [innerLit2]; decide) rfl rfl rfl
    intro g L' h₁ F N kb sb hL hl
    k_lt hl
    have sg : Sub g₀ g := fun b o e => kb b o (by
        simp only [List.map_cons, List.map_nil, List.mem_cons, List.not_mem_nil, or_false, not_or]
        refine ⟨?_, ?_, ?_, ?_, ?_⟩ <;> (intro q; subst q; simp [hg] at e)) (hs b o e)
    have hcg : g.CodeRec (.ref c') innerQ2 := codeRec_kb hcd kb (by
      simp only [List.map_cons, List.map_nil, List.forall_mem_cons, List.not_mem_nil, false_imp_iff, implies_true, and_true]
      refine ⟨?_, ?_, ?_, ?_, ?_⟩ <;> (intro o ho vs' hd')
      · rw [hd] at ho; cases ho; cases hd'
      · rw [hf] at ho; cases ho; cases hd'
      · rw [ha] at ho; cases ho; rw [ha'] at hd'; cases hd'
      · rw [hi] at ho; cases ho; rw [hi'] at hd'; cases hd'
      · rw [hn] at ho; cases ho; rw [hn'] at hd'; cases hd')
    have fin : ∀ {h : Heap} {m : Str → Option Value}, Fr g L' h m → News g L' h [(d, listOf vs.toArray ep), (f, innerFn2 w.params ca ci cn doc pm c' ctv), (ca, oa), (ci, oi), (cn, on)] → KB [] s.heap h := fun F9 N9 b o hb' e => by
        by_cases hq : b ∈ [d, f, ca, ci, cn]
        · simp only [List.mem_cons, List.not_mem_nil, or_false] at hq
          rcases hq with rfl | rfl | rfl | rfl | rfl
          · rw [hd] at e; cases e; exact (N9 _ (.head _)).1
          · rw [hf] at e; cases e; exact (N9 _ (.tail _ (.head _))).1
          · rw [ha] at e; cases e; exact (N9 _ (.tail _ (.tail _ (.head _)))).1
          · rw [hi] at e; cases e; exact (N9 _ (.tail _ (.tail _ (.tail _ (.head _))))).1
          · rw [hn] at e; cases e; exact (N9 _ (.tail _ (.tail _ (.tail _ (.tail _ (.head _)))))).1
        · exact F9.keep b o (kb b o hq e)
    have X' := X.keeps sg
    have T' := T.keeps sg
    have c1' := c1.keeps sg
    clear X T c1
    unfold innerFn2 at N
    dsimp only [innerLit2, W.listOf] at N ⊢
    (try k_fold)
    k_steps
    · dsimp only
      rename Fr _ _ _ _ => F9
      rename News _ _ _ _ => N9
      have eR : R = L + 1 := by omega
      subst eR
      rw [Int.toNat_natCast, ← cut_one (by omega) n]
      exact hret _ _ _ (fin F9 N9)
    · have hLM : L < M := by omega
      have hMR : M < R := by omega
      rename Fr _ _ _ _ => F1
      rename News _ _ _ _ => N1
      refine ih (fun b o e => F1.keep b o (sg b o e)) (N1 _ (.tail _ (.head _))).1 (hcg.keeps F1.keep) (N1 _ (.tail _ (.tail _ (.head _)))).1 ha' (N1 _ (.tail _ (.tail _ (.tail _ (.head _))))).1 hi' (N1 _ (.tail _ (.tail _ (.tail _ (.tail _ (.head _)))))).1 hn'
        (N1 _ (.head _)).1 hg hMR (by omega) (by omega) (by ktr_room) (by ktr_units) ?_
      intro t1 h1 tk1 kb1
      rw [← hup]
      have F2 := fr_kb F1 kb1 List.not_mem_nil (fun _ h => nomatch h)
      have N2 := news_kb N1 kb1 (fun _ _ => List.not_mem_nil)
      clear F1 N1
      k_steps
      rename Fr _ _ _ _ => F1
      rename News _ _ _ _ => N1
      refine ih (fun b o e => F1.keep b o (sg b o e)) (N1 _ (.tail _ (.head _))).1 (hcg.keeps F1.keep) (N1 _ (.tail _ (.tail _ (.head _)))).1 ha' (N1 _ (.tail _ (.tail _ (.tail _ (.head _))))).1 hi' (N1 _ (.tail _ (.tail _ (.tail _ (.tail _ (.head _)))))).1 hn'
        (N1 _ (.head _)).1 hg hLM (by omega) (by omega) (by ktr_room) (by ktr_units) ?_
      intro t2 h2 tk2 kb2
      have F2 := fr_kb F1 kb2 List.not_mem_nil (fun _ h => nomatch h)
      have N2 := news_kb N1 kb2 (fun _ _ => List.not_mem_nil)
      clear F1 N1
      k_steps
      rename Fr _ _ _ _ => F9
      rename News _ _ _ _ => N9
      have ev : ups + val n (cut ns L M) = val n (cut ns L R) := by
        rw [cut_split (Nat.le_of_lt hLM) (Nat.le_of_lt hMR), val_append, cut_len (by omega), ← hup, ← f4, Int.toNat_natCast, hsh, Nat.mul_comm n, Int.mul_comm up]
        omega
      try dsimp only
      rw [ev]
      exact hret _ _ _ (fin F9 N9)
end
section -- A5
set_option maxHeartbeats 8000000
local macro_rules | `(tactic| tb_start) => `(tactic| ((case X => k_asm); (case T => k_asm); (case hs => k_asm); (case ho => k_is); (case hcd => k_is); (case hroom => ktr_room); (case hb => exact rfl); (case kB => exact rfl); (case kD => decide +kernel); (case c2 => exact rfl); (case c3 => exact rfl); (case c4 => exact rfl)))
theorem d2i_W {w : World} {p : Program} {loose : List Str} {mean : ExcName → Option Value} {mg mb : Str → Option Value} {g₀ : Heap} (G : Gd w p loose mean mg mb g₀)
   {n : Nat} (hn1 : 1 ≤ n) (hn2 : n ≤ 20) {tn : Tok} {d : Addr} {vs : List Value} {ns : List Int} {ep : Nat} (hv : IntsAre vs ns) (hb : ∀ x ∈ ns, 0 ≤ x ∧ x < 2 ^ n) (hnl : n * ns.length ≤ 60) (hlen : ns.length ≤ 64)
   {dp un : Nat} {fr : Option (List Env)} {gd : Option (List Code)} {s : Shared} {Q E : Value → Shared → Prop} (hs : Sub g₀ s.heap) (ht : TabF s.heap 44 (innerLit2 w.params).1.pos innerQ2) (hd : s.heap.get? d = some (listOf vs.toArray ep)) (hgd : g₀.get? d = none)
   (hdp : dp + 100 < recursionLimit) (hun : un + 1000 < cLine)
   (hret : ∀ t h' tk', Sub s.heap h' → Q (.int (val n ns) t) { s with heap := h', toks := tk' }) :
   wpAny (model PySem.Challenge.rw_ph0093_01.row.prog w) (AA dp un fr gd) (call (.ref 49) [.ref d, .int (n : Int) tn]) Q E s := by
  have X := G.X
  have T := G.T
  revert X; k_fill; intro X
  obtain ⟨c, hps, hc⟩ := ht
  have hd44 : d ≠ 44 := fun q => by
    rw [q, hps] at hd
    have := congrArg Obj.data (Option.some.inj hd)
    cases this
  k_dflt (refine' enterKC (binds := [(Str.ofString "digits", .ref d), (Str.ofString "n", .int (n : Int) tn)]) [(44, tabObj #[rawInt (innerLit2 w.params).1.pos.line, rawInt (innerLit2 w.params).1.pos.col, .ref c])] (List.forall_mem_cons.mpr ⟨hps, fun _ h => nomatch h⟩) ?X ?T ?hs (List.forall_mem_cons.mpr ⟨G.n2, fun _ h => nomatch h⟩) ?ho ?hcd ?hroom ?hb ?kB ?kD ?_ ?c2 ?c3 ?c4; tb_start)
  intro g L' h₁ tk cells F N Y kb sb sg X' T' hL hl
  have c1' := G.c2.keeps sg
  have hdg : g.get? d = some (listOf vs.toArray ep) := kb _ _ (by simpa using hd44) hd
  have hlg : g.IsList d vs.toArray := ⟨_, hdg, rfl, _, rfl⟩
  have hcg : g.CodeRec (.ref c) innerQ2 := by
    obtain ⟨c', oc, vs, t, e, ho, hd, hv⟩ := hc
    refine ⟨c', oc, vs, t, e, kb _ _ (fun q => ?_) ho, hd, hv⟩
    simp only [List.map_cons, List.map_nil, List.mem_singleton] at q
    subst q
    rw [hps] at ho
    cases ho
    cases hd
    simp [rawInt] at hv
  dsimp only [innerLit2] at N
  k_lt hl
  k_cells Y
  (try simp only [List.cons_append, List.nil_append] at N)
  (try dsimp only)
  (try k_fold)
  k_steps
  · rename Fr _ _ _ _ => F1
    rename News _ _ _ _ => N1
    refine inner2_H G hn1 hn2 hv hb hnl hlen 64 (L := 0) (fun b o e => F1.keep b o (sg b o e)) (N1 _ (.head _)).1 (hcg.keeps F1.keep)
      (N1 _ (.tail _ (.tail _ (.tail _ (.head _))))).1 (by assumption) (N1 _ (.tail _ (.head _))).1 (by assumption) (N1 _ (.tail _ (.tail _ (.head _)))).1 (by assumption) (F1.keep _ _ hdg) ⟨hgd, none_of sg (N1 _ (.head _)).2.2, none_of sg (N1 _ (.tail _ (.tail _ (.tail _ (.head _))))).2.2, none_of sg (N1 _ (.tail _ (.head _))).2.2, none_of sg (N1 _ (.tail _ (.tail _ (.head _)))).2.2⟩ (by omega) (Nat.le_refl _) (by omega) (by ktr_room) (by ktr_units) ?_
    intro t1 h1 tk1 kb1
    have F9 := fr_kb F1 kb1 List.not_mem_nil (fun _ h => nomatch h)
    have N9 := news_kb N1 kb1 (fun _ _ => List.not_mem_nil)
    have e1 : val n (cut ns 0 ns.length) = val n ns := by unfold cut; rw [Nat.sub_zero, List.drop_zero, List.take_length]
    rw [e1]
    exact hret _ _ _ (sub37 kb F9 hps (N9 _ (.tail _ (.tail _ (.tail _ (.tail _ (.head _)))))).1)
  · rename Fr _ _ _ _ => F9
    rename News _ _ _ _ => N9
    have e0 : ns = [] := by
      cases ns with
      | nil => rfl
      | cons _ _ => simp only [List.length_cons] at *; omega
    subst e0
    exact hret _ _ _ (sub37 kb F9 hps (N9 _ (.tail _ (.tail _ (.tail _ (.tail _ (.head _)))))).1)
theorem d2i_C {w : World} {p : Program} {loose : List Str} {mean : ExcName → Option Value} {mg mb : Str → Option Value} {g₀ : Heap} (G : Gd w p loose mean mg mb g₀)
   {n : Nat} (hn1 : 1 ≤ n) (hn2 : n ≤ 20) {tn : Tok} {d : Addr} {ep : Nat}
   {dp un : Nat} {fr : Option (List Env)} {gd : Option (List Code)} {s : Shared} {Q E : Value → Shared → Prop} (hs : Sub g₀ s.heap) (hps : s.heap.get? 44 = some (tabObj #[])) (hd : s.heap.get? d = some (listOf #[] ep)) (hgd : g₀.get? d = none)
   (hdp : dp + 100 < recursionLimit) (hun : un + 1000 < cLine)
   (hret : ∀ t0 h' tk' c oc vs t, KB [44] s.heap h' → h'.get? 44 = some (tabObj #[rawInt (innerLit2 w.params).1.pos.line, rawInt (innerLit2 w.params).1.pos.col, .ref c]) → s.heap.objs.size ≤ c → h'.get? c = some oc → oc.data = .fields vs → vs[1]? = some (.str innerQ2 t) → Q (.int 0 t0) { s with heap := h', toks := tk' }) :
   wpAny (model PySem.Challenge.rw_ph0093_01.row.prog w) (AA dp un fr gd) (call (.ref 49) [.ref d, .int (n : Int) tn]) Q E s := by
  have X := G.X
  have T := G.T
  revert X; k_fill; intro X
  have hd44 : d ≠ 44 := fun q => by
    rw [q, hps] at hd
    have := congrArg Obj.data (Option.some.inj hd)
    cases this
  k_dflt (refine' enterKC (binds := [(Str.ofString "digits", .ref d), (Str.ofString "n", .int (n : Int) tn)]) [(44, tabObj #[])] (List.forall_mem_cons.mpr ⟨hps, fun _ h => nomatch h⟩) ?X ?T ?hs (List.forall_mem_cons.mpr ⟨G.n2, fun _ h => nomatch h⟩) ?ho ?hcd ?hroom ?hb ?kB ?kD ?_ ?c2 ?c3 ?c4; tb_start)
  intro g L' h₁ tk cells F N Y kb sb sg X' T' hL hl
  have c1' := G.c2.keeps sg
  have hdg : g.get? d = some (listOf #[] ep) := kb _ _ (by simpa using hd44) hd
  have hlg : g.IsList d ([] : List Value).toArray := ⟨_, hdg, rfl, _, rfl⟩
  k_lt hl
  k_cells Y
  (try simp only [List.cons_append, List.nil_append] at N)
  (try dsimp only)
  (try k_fold)
  have hIn : IntsAre ([] : List Value) [] := .nil
  k_steps
  rename Fr _ _ _ _ => F9
  rename News _ _ _ _ => N9
  refine hret _ _ _ _ _ _ _ (fun b o hb e => F9.keep b o (kb b o hb e)) (N9 _ (.tail _ (.tail _ (.tail _ (.tail _ (.tail _ (.head _))))))).1 ?_ (N9 _ (.tail _ (.head _))).1 (by assumption) (by assumption)
  rw [hL]; omega
end
section -- M3
/-- one turn of the long division: the rest, the quotient's digits so far (the highest first) -/
def dstep (n : Nat) (b : Int) (p : Int × List Int) (d : Int) : Int × List Int := ((p.1 * 2 ^ n + d) % b, p.2 ++ [(p.1 * 2 ^ n + d) / b])
def dfold (n : Nat) (b : Int) (ds : List Int) : Int × List Int := ds.foldl (dstep n b) (0, [])
theorem dfold_snoc (n : Nat) (b : Int) (ds : List Int) (d : Int) : dfold n b (ds ++ [d]) = dstep n b (dfold n b ds) d := by simp [dfold]
theorem dfold_facts {n : Nat} {b : Int} (hb0 : 0 < b) (_hb : b ≤ 2 ^ n) (l : List Int) (hd : ∀ d ∈ l, 0 ≤ d ∧ d < 2 ^ n) :
    0 ≤ (dfold n b l.reverse).1 ∧ (dfold n b l.reverse).1 < b ∧ (∀ q ∈ (dfold n b l.reverse).2, 0 ≤ q ∧ q < 2 ^ n) ∧ (dfold n b l.reverse).2.length = l.length ∧ val n (dfold n b l.reverse).2.reverse * b + (dfold n b l.reverse).1 = val n l := by
  induction l with
  | nil => exact ⟨Int.le_refl _, hb0, (fun _ h => nomatch (show _ ∈ ([] : List Int) from h)), rfl, by simp [dfold, val]⟩
  | cons d t ih =>
    obtain ⟨h1, h2, h3, h4, h5⟩ := ih fun x hx => hd x (.tail _ hx)
    obtain ⟨h6, h7⟩ := hd d (.head _)
    rw [List.reverse_cons, dfold_snoc]
    generalize dfold n b t.reverse = p at *
    obtain ⟨r, qs⟩ := p
    simp only at h1 h2 h3 h4 h5
    have hp : (0 : Int) < 2 ^ n := Int.pow_pos (by decide)
    have ht0 : 0 ≤ r * 2 ^ n + d := by have := Int.mul_nonneg h1 (Int.le_of_lt hp); omega
    have ht1 : r * 2 ^ n + d < b * 2 ^ n := by
      have := Int.mul_le_mul_of_nonneg_right (show r ≤ b - 1 by omega) (Int.le_of_lt hp)
      rw [Int.sub_mul, Int.one_mul] at this
      omega
    refine ⟨Int.emod_nonneg _ (by omega), Int.emod_lt_of_pos _ hb0, ?_, by simp [dstep, h4], ?_⟩
    · intro q hq
      rcases List.mem_append.mp hq with hq | hq
      · exact h3 q hq
      · rw [List.mem_singleton.mp hq]
        exact ⟨Int.ediv_nonneg ht0 (Int.le_of_lt hb0), Int.ediv_lt_of_lt_mul hb0 (by have := ht1; rw [Int.mul_comm b] at this; exact this)⟩
    · simp only [dstep, List.reverse_append, List.reverse_cons, List.reverse_nil, List.nil_append, List.singleton_append, val]
      rw [← h5]
      have e := Int.mul_ediv_add_emod (r * 2 ^ n + d) b
      generalize (r * 2 ^ n + d) / b = q at *
      generalize (r * 2 ^ n + d) % b = r' at *
      generalize val n qs.reverse = V at *
      generalize (2 : Int) ^ n = P at *
      have e1 : (q + P * V) * b = b * q + P * (V * b) := by rw [Int.add_mul, Int.mul_comm q b, Int.mul_assoc]
      have e2 : P * (V * b + r) = P * (V * b) + r * P := by rw [Int.mul_add, Int.mul_comm P r]
      rw [e1, e2]
      omega
theorem digs_mem {n : Nat} {a : Int} {m : Nat} {d : Int} (h : d ∈ digs n a m) : 0 ≤ d ∧ d < 2 ^ n := by
  obtain ⟨j, _, rfl⟩ := List.mem_map.mp h
  have hp : (0 : Int) < 2 ^ n := Int.pow_pos (by decide)
  exact ⟨Int.emod_nonneg _ (Int.ne_of_gt hp), Int.emod_lt_of_pos _ hp⟩
theorem digs_succ (n : Nat) (a : Int) (m : Nat) : digs n a (m + 1) = a % 2 ^ n :: digs n (a / 2 ^ n) m := by
  unfold digs
  rw [List.range_succ_eq_map, List.map_cons, List.map_map]
  simp only [Nat.mul_zero, Int.pow_zero, Int.ediv_one]
  congr 1
  apply List.map_congr_left
  intro j _
  simp only [Function.comp]
  rw [div_div_pow, Nat.mul_succ, Nat.add_comm]
theorem val_digs (n : Nat) : ∀ (m : Nat) {a : Int}, 0 ≤ a → a < 2 ^ (n * m) → val n (digs n a m) = a
  | 0, a, h0, h1 => by
    simp at h1
    have : a = 0 := by omega
    subst this
    rfl
  | m + 1, a, h0, h1 => by
    have hp : (0 : Int) < 2 ^ n := Int.pow_pos (by decide)
    rw [digs_succ, val, val_digs n m (Int.ediv_nonneg h0 (Int.le_of_lt hp)) (hi_lt (by rw [Nat.mul_succ, Nat.add_comm] at h1; exact h1))]
    exact Int.emod_add_mul_ediv a _
theorem digs_len (n : Nat) (a : Int) (m : Nat) : (digs n a m).length = m := by simp [digs]
/-- the whole of it -/
theorem long_division {n : Nat} {a b : Int} (hb0 : 0 < b) (hb : b ≤ 2 ^ n) (m : Nat) (h0 : 0 ≤ a) (h1 : a < 2 ^ (n * m)) :
    let p := dfold n b (digs n a m).reverse
    val n p.2.reverse = a / b ∧ p.1 = a % b := by
  have h := dfold_facts hb0 hb (digs n a m) fun d hd => digs_mem hd
  rw [val_digs n m h0 h1] at h
  obtain ⟨h3, h2, _, _, h5⟩ := h
  clear h1
  dsimp only
  generalize (dfold n b (digs n a m).reverse).1 = r at *
  generalize val n (dfold n b (digs n a m).reverse).2.reverse = q at *
  subst h5
  rw [Int.add_comm]
  constructor
  · rw [Int.add_mul_ediv_right _ _ (by omega), Int.ediv_eq_zero_of_lt h3 h2]; omega
  · rw [Int.add_mul_emod_self_right, Int.emod_eq_of_lt h3 h2]
end
section -- B3
set_option maxHeartbeats 8000000
/-- the end of a loop's turn: the frame, the iterator, the rest -/
def TurnP (h₀ : Heap) (L : Addr) (s : Shared) (I : Addr) (it : Obj) (J : (Str → Option Value) → List (Addr × Obj) → Prop) (f : Flow) (s₂ : Shared) : Prop :=
  f = .next ∧ ∃ h' tk' m' news', s₂ = { s with heap := h', toks := tk' } ∧ Fr h₀ L h' m' ∧ News h₀ L h' ((I, it) :: news') ∧ J m' news'
section
variable {prog : Program} {w : World} {A : Around} {E : Value → Shared → Prop} {s : Shared} {env : Env} {h₀ : Heap} {x : Str} {body : List Stmt} {Q : Flow → Shared → Prop}
theorem iter_rev {I ax : Addr} {lo : Obj} {vs : List Value} {n : Nat} {m₀ : Str → Option Value} {news : List (Addr × Obj)} (J : Nat → (Str → Option Value) → List (Addr × Obj) → Prop)
    (hh : A.handled = none) (F : Fr h₀ env.locals s.heap m₀) (N : News h₀ env.locals s.heap ((I, revObj ax ((vs.length : Int) - 1)) :: news)) (hm : (ax, lo) ∈ news) (hc : lo.cls = .type "list") (hd : lo.data = .seq vs.toArray n)
    (hJ0 : J 0 m₀ news) (hJl : ∀ i m nw, J i m nw → (ax, lo) ∈ nw) (hJo : ∀ i m nw, J i m nw → ∀ p ∈ nw, p.1 ≠ I)
    (turn : ∀ i v m₁ news₁ it h tk, i < vs.length → vs.reverse[i]? = some v → J i m₁ news₁ → Fr h₀ env.locals h (fun y => if y = x then some v else m₁ y) → News h₀ env.locals h ((I, it) :: news₁) →
      wpAny (model prog w) A (execs body env) (TurnP h₀ env.locals s I it (J (i + 1))) E { s with heap := h, toks := tk })
    (done : ∀ m' news' h' tk', J vs.length m' news' → Fr h₀ env.locals h' m' → News h₀ env.locals h' news' → Q .next { s with heap := h', toks := tk' }) :
    wpAny (model prog w) A (pyIter (.ref I)) (fun it s₂ => LoopAtV prog w A h₀ env x body Q E it s₂) E s := by
  have hIx := N _ (List.mem_cons_self ..)
  have hax := N _ (List.mem_cons_of_mem _ hm)
  have hl : s.heap.IsList ax vs.toArray := ⟨lo, hax.1, hc, n, hd⟩
  have hne : ax ≠ I := hJo _ _ _ hJ0 _ hm
  have hit : s.heap.IsRevIter I ax ((vs.length : Int) - 1) := ⟨_, hIx.1, rfl, rfl⟩
  refine wpAny_pyIter_revIter hit ?_
  have W := Walks.listRev (prog := prog) (w := w) hh I ax hne vs.toArray
  have hlen : vs.toArray.size = vs.length := by simp
  rw [hlen] at W
  refine ⟨I, _, _, vs.length, _, _, m₀, news, J, rfl, W, ?_, ?_, ?_, ⟨Nat.zero_le _, ?_, hl⟩, F, (fun p hp => N p (List.mem_cons_of_mem _ hp)), hJ0, ?_, ?_⟩
  · intro hmm
    rcases List.mem_cons.mp hmm with e | hmm
    · exact hIx.2.1 e.symm
    · exact hax.2.1 (List.mem_singleton.mp hmm).symm
  · intro b hb
    rw [List.mem_singleton.mp hb]
    exact hIx.2.2
  · intro p hp hI
    exact hJo _ _ _ hJ0 p hp (List.mem_singleton.mp hI)
  · have e : (vs.length : Int) - 1 - ((0 : Nat) : Int) = (vs.length : Int) - 1 := by omega
    rw [e]
    exact hit
  · rintro i v m₁ news₁ s₁ own ⟨hh', tk', rfl⟩ hin hP hJ hofs hown hget hall hst F₁ N₁
    obtain ⟨it, hit', hic, hid⟩ := hst.2.1
    have hmemI := hall I (List.mem_cons_self ..) hIx.2.2 _ hit'
    have hv : vs.reverse[i]? = some v := by
      rw [List.getElem?_reverse hin]
      simpa using hP
    have N₂ : News h₀ env.locals hh' ((I, it) :: news₁) := fun p hp => by
      rcases List.mem_cons.mp hp with rfl | hp
      · exact N₁ _ (List.mem_append_left _ hmemI)
      · exact N₁ _ (List.mem_append_right _ hp)
    refine wpAny_mono (turn i v m₁ news₁ it hh' tk' hin hv hJ F₁ N₂) (fun f s₂ p => ?_) fun _ _ e => e
    obtain ⟨rfl, h', tk, m', news', e, F', N', hJ'⟩ := p
    refine .next ⟨rfl, h', tk, m', news', e, F', fun p hp => ?_, fun p hp hI => hJo _ _ _ hJ' p hp (List.mem_singleton.mp hI), hJ'⟩
    rcases List.mem_append.mp hp with hp | hp
    · have h2 : hh'.get? p.1 = some p.2 := hget p hp
      rcases List.mem_cons.mp (hown p hp) with h1 | h1
      · have h3 : p = (I, it) := by
          rw [h1, hit'] at h2
          exact Prod.ext h1 (Option.some.inj h2).symm
        rw [h3]; exact N' _ (List.mem_cons_self ..)
      · have h1' : p.1 = ax := List.mem_singleton.mp h1
        have h3 : p = (ax, lo) := by
          rw [h1', (N₁ _ (List.mem_append_right _ (hJl _ _ _ hJ))).1] at h2
          exact Prod.ext h1' (Option.some.inj h2).symm
        rw [h3]; exact N' _ (List.mem_cons_of_mem _ (hJl _ _ _ hJ'))
    · exact N' _ (List.mem_cons_of_mem _ hp)
  · rintro h' tk m' news' F' N' _ hJ
    exact done m' news' h' tk hJ F' N'
theorem iter_list {l : Addr} {vs : List Value} {m₀ : Str → Option Value} {news : List (Addr × Obj)} (J : Nat → (Str → Option Value) → List (Addr × Obj) → Prop)
    (hh : A.handled = none) (hl : h₀.IsList l vs.toArray) (F : Fr h₀ env.locals s.heap m₀) (N : News h₀ env.locals s.heap news)
    (hJ0 : J 0 m₀ news) (hJo : ∀ i m nw, J i m nw → ∀ p ∈ nw, p.1 ≠ s.heap.objs.size)
    (turn : ∀ i v m₁ news₁ it h tk, i < vs.length → vs[i]? = some v → J i m₁ news₁ → Fr h₀ env.locals h (fun y => if y = x then some v else m₁ y) → News h₀ env.locals h ((s.heap.objs.size, it) :: news₁) →
      wpAny (model prog w) A (execs body env) (TurnP h₀ env.locals s s.heap.objs.size it (J (i + 1))) E { s with heap := h, toks := tk })
    (done : ∀ m' news' h' tk', J vs.length m' news' → Fr h₀ env.locals h' m' → News h₀ env.locals h' news' → Q .next { s with heap := h', toks := tk' }) :
    wpAny (model prog w) A (pyIter (.ref l)) (fun it s₂ => LoopAtV prog w A h₀ env x body Q E it s₂) E s := by
  have hls : s.heap.IsList l vs.toArray := hl.at fun o e => F.keep l o e
  obtain ⟨ol, hol, _⟩ := id hl
  have hlt : l < h₀.objs.size := Heap.lt_size hol
  have hne : l ≠ s.heap.objs.size := Nat.ne_of_lt (Nat.lt_trans (Nat.lt_of_lt_of_le hlt F.above) F.ns.lt)
  refine wpAny_pyIter_list hls ?_
  have W := Walks.list (prog := prog) (w := w) hh s.heap.objs.size l hne vs.toArray
  have hlen : vs.toArray.size = vs.length := by simp
  rw [hlen] at W
  refine ⟨_, _, _, vs.length, _, _, m₀, news, J, rfl, W, ?_, ?_, ?_, ⟨⟨_, Heap.get?_push_size _ rfl, rfl, rfl⟩, hls.at fun o e => Heap.get?_push_of_some _ e⟩, F.push _, (fun p hp => ⟨Heap.get?_push_of_some _ (N p hp).1, (N p hp).2⟩), hJ0, ?_, ?_⟩
  · intro hm
    rcases List.mem_cons.mp hm with e | hm
    · exact absurd F.ns.lt (e ▸ Nat.lt_irrefl _)
    · exact absurd (Nat.lt_of_lt_of_le hlt F.above) ((List.mem_singleton.mp hm) ▸ Nat.lt_irrefl _)
  · intro b hb
    rw [List.mem_singleton.mp hb]
    exact next_is_new F
  · intro p hp hI
    exact hJo _ _ _ hJ0 p hp (List.mem_singleton.mp hI)
  · rintro i v m₁ news₁ s₁ own ⟨hh', tk', rfl⟩ hin hP hJ hofs hown hget hall hst F₁ N₁
    obtain ⟨it, hit', hic, hid⟩ := hst.1
    have hmemI := hall s.heap.objs.size (List.mem_cons_self ..) (next_is_new F) _ hit'
    have hv : vs[i]? = some v := by simpa using hP
    have N₂ : News h₀ env.locals hh' ((s.heap.objs.size, it) :: news₁) := fun p hp => by
      rcases List.mem_cons.mp hp with rfl | hp
      · exact N₁ _ (List.mem_append_left _ hmemI)
      · exact N₁ _ (List.mem_append_right _ hp)
    refine wpAny_mono (turn i v m₁ news₁ it hh' tk' hin hv hJ F₁ N₂) (fun f s₂ p => ?_) fun _ _ e => e
    obtain ⟨rfl, h', tk, m', news', e, F', N', hJ'⟩ := p
    refine .next ⟨rfl, h', tk, m', news', e, F', fun p hp => ?_, fun p hp hI => hJo _ _ _ hJ' p hp (List.mem_singleton.mp hI), hJ'⟩
    rcases List.mem_append.mp hp with hp | hp
    · have h2 : hh'.get? p.1 = some p.2 := hget p hp
      rcases List.mem_cons.mp (hown p hp) with h1 | h1
      · have h3 : p = (s.heap.objs.size, it) := by
          rw [h1, hit'] at h2
          exact Prod.ext h1 (Option.some.inj h2).symm
        rw [h3]; exact N' _ (List.mem_cons_self ..)
      · have h1' : p.1 = l := List.mem_singleton.mp h1
        have h4 := (N₁ p (List.mem_append_left _ hp)).2.2
        rw [h1', hol] at h4
        cases h4
    · exact N' _ (List.mem_cons_of_mem _ hp)
  · rintro h' tk m' news' F' N' _ hJ
    exact done m' news' h' tk hJ F' N'
end
end
section -- A6
set_option maxHeartbeats 8000000
/-- both tables filled -/
def Warm (w : World) (h : Heap) : Prop := TabF h 37 (innerLit w.params).1.pos innerQ ∧ TabF h 44 (innerLit2 w.params).1.pos innerQ2
theorem Warm.keep {w : World} {h h' : Heap} (t : Warm w h) (k : Sub h h') : Warm w h' := ⟨t.1.keep k, t.2.keep k⟩
theorem ints_snoc {vs : List Value} {ns ms : List Int} {x y : Int} {t : Tok} (h : IntsAre vs ns) (e : ms = ns ++ [y]) (exy : x = y) : IntsAre (vs ++ [.int x t]) ms := by
  subst e; subst exy
  induction h with
  | nil => exact .cons _ _ .nil
  | cons n t _ ih => exact .cons n t ih
theorem ints_rev {vs : List Value} {ns : List Int} (h : IntsAre vs ns) : IntsAre vs.reverse ns.reverse := by
  induction h with
  | nil => exact .nil
  | cons n t _ ih => rw [List.reverse_cons, List.reverse_cons]; exact ints_snoc ih rfl rfl
theorem chain4 {m : Str → Option Value} {k1 k2 k3 k4 : Str} {v1 v2 v3 v4 : Option Value} (h1 : m k1 = v1) (h2 : m k2 = v2) (h3 : m k3 = v3) (h4 : m k4 = v4) : m = fun y => if y = k1 then v1 else if y = k2 then v2 else if y = k3 then v3 else if y = k4 then v4 else m y := by
  funext y
  by_cases e1 : y = k1
  · rw [if_pos e1, e1, h1]
  rw [if_neg e1]
  by_cases e2 : y = k2
  · rw [if_pos e2, e2, h2]
  rw [if_neg e2]
  by_cases e3 : y = k3
  · rw [if_pos e3, e3, h3]
  rw [if_neg e3]
  by_cases e4 : y = k4
  · rw [if_pos e4, e4, h4]
  rw [if_neg e4]
local macro_rules | `(tactic| walk_at "binaryOp LShift int int") => `(tactic| (refine lsh_as (by omega) (by omega) (by omega) (by omega) (by assumption) ?_; intro t'))
local macro_rules | `(tactic| tb_start) => `(tactic| ((case X => k_asm); (case T => k_asm); (case hs => k_asm); (case ho => k_is); (case hcd => k_is); (case hroom => ktr_room); (case hb => exact rfl); (case hl => exact locs rfl); (case c1 => decide); (case c2 => exact rfl); (case c3 => exact rfl); (case c4 => exact rfl)))
theorem dpos_W {w : World} {p : Program} {loose : List Str} {mean : ExcName → Option Value} {mg mb : Str → Option Value} {g₀ : Heap} (G : Gd w p loose mean mg mb g₀)
   {a b : Int} {ta tb : Tok} (ha0 : 0 ≤ a) (ha1 : a < 2 ^ 40) (hb0 : 0 < b) (hb1 : b < 2 ^ 20)
   {dp un : Nat} {fr : Option (List Env)} {gd : Option (List Code)} {s : Shared} {Q E : Value → Shared → Prop} (hs : Sub g₀ s.heap) (hw : Warm w s.heap)
   (hdp : dp + 200 < recursionLimit) (hun : un + 1100 < cLine)
   (hret : ∀ D t1 t2 c h' tk', Sub s.heap h' → s.heap.objs.size ≤ D → h'.get? D = some (tupO [.int (a / b) t1, .int (a % b) t2] c) → Q (.ref D) { s with heap := h', toks := tk' }) :
   wpAny (model PySem.Challenge.rw_ph0093_01.row.prog w) (AA dp un fr gd) (call (.ref 56) [.int a ta, .int b tb]) Q E s := by
  have X := G.X
  have T := G.T
  revert X; k_fill; intro X
  k_dflt (refine' enterK (binds := [(Str.ofString "a", .int a ta), (Str.ofString "b", .int b tb)]) [] (fun _ h => nomatch h) ?X ?T ?hs (fun _ h => nomatch h) ?ho ?hcd ?hroom ?hb ?hl ?_ ?c1 ?c2 ?c3 ?c4; tb_start)
  intro g L' h₁ F N kb sb sg X' T' hL hl
  have hwg : Warm w g := hw.keep fun b o e => kb b o List.not_mem_nil e
  (try dsimp only)
  (try k_fold)
  k_steps
  rename Fr _ _ _ _ => F1
  rename News _ _ _ _ => N1
  have hn1 : 1 ≤ Builtin.Int.intBits b := intBits_pos (by omega)
  have hn2 : Builtin.Int.intBits b ≤ 20 := by have := intBits_le (Int.le_of_lt hb0) hb1; omega
  refine i2d_W G hn1 hn2 ha0 (by omega) (fun b o e => F1.keep b o (sg b o e)) (hwg.keep F1.keep).1 (by ktr_room) (by ktr_units) ?_
  intro D vs ep h2 tk2 kb2 hD hDg hDi
  dsimp only at hD hDg kb2
  have hLD : @LT.lt Nat _ L' D := Nat.lt_of_lt_of_le F1.ns.lt hD
  have F2 := fr_kb (ex := []) F1 (fun b o _ e => kb2 b o e) List.not_mem_nil (fun _ h => nomatch h)
  have N2 := news_cons hDg (Nat.ne_of_gt hLD) (Heap.get?_none_of_le (Nat.le_trans F1.above (Nat.le_of_lt hLD))) (News.nil (h₀ := g) (L := L') (h := h2))
  clear F1 N1 kb2
  k_steps
  rename Fr _ _ _ _ => F1
  obtain ⟨n, hn⟩ : ∃ n : Nat, n = Builtin.Int.intBits b := ⟨_, rfl⟩
  rename_i l' h5 l1 h6 D' h7 N1 l2
  have hbn : b ≤ 2 ^ n := Int.le_of_lt (intBits_pow (Int.le_of_lt hb0) (Nat.le_of_eq hn.symm))
  rw [← hn] at hDi F1 hn1 hn2
  have hmm : (Builtin.Int.intBits a + n - 1) / n ≤ 60 := by
    have hb1 := intBits_le ha0 ha1
    refine Nat.le_trans (Nat.div_le_div_right (c := n) (show Builtin.Int.intBits a + n - 1 ≤ 60 * n by have := Nat.mul_le_mul_left 59 hn1; omega)) ?_
    rw [Nat.mul_div_cancel _ (by omega)]
    exact Nat.le_refl _
  have hmlt : a < 2 ^ (n * ((Builtin.Int.intBits a + n - 1) / n)) := by
    refine intBits_pow ha0 ?_
    have := Nat.lt_mul_div_succ (Builtin.Int.intBits a + n - 1) (show 0 < n by omega)
    rw [Nat.mul_add] at this
    omega
  generalize hds : digs n a ((Builtin.Int.intBits a + n - 1) / n) = ds at hDi
  have hdsm : ∀ d ∈ ds, 0 ≤ d ∧ d < 2 ^ n := fun d hd => digs_mem (hds ▸ hd)
  refine iter_rev (fun i m nw => ∃ us k tr tn, nw = [(l', listOf us.toArray k), (D, listOf vs.toArray ep)] ∧ IntsAre us (dfold n b (ds.reverse.take i)).2 ∧ us.length = i ∧
      m (Str.ofString "r") = some (.int (dfold n b (ds.reverse.take i)).1 tr) ∧ m (Str.ofString "q_digits") = some (.ref l') ∧ m (Str.ofString "b") = some (.int b tb) ∧ m (Str.ofString "n") = some (.int (n : Int) tn))
    rfl F1 N1 (.tail _ (.head _)) rfl rfl ?_ ?_ ?_ ?_ ?_
  · exact ⟨[], 0, _, _, rfl, .nil, rfl, rfl, rfl, rfl, rfl⟩
  · rintro i m nw ⟨us, k, tr, tn, rfl, _⟩; exact .tail _ (.head _)
  · rintro i m nw ⟨us, k, tr, tn, rfl, _⟩ p hp
    simp only [List.mem_cons, List.not_mem_nil, or_false] at hp
    rcases hp with rfl | rfl <;> (refine neN ?_; dsimp only; omega)
  · rintro i v m₁ nw it h tk hi hv ⟨us, k, tr, tn, rfl, hus, hul, hr, hq, hb', hn'⟩ F1 N1
    have hi' : i < ds.reverse.length := by rw [List.length_reverse, ← hDi.length]; exact hi
    obtain ⟨td, hv'⟩ : ∃ td, v = .int ds.reverse[i] td := by
      rw [List.getElem?_reverse hi] at hv
      have e : ds[vs.length - 1 - i]? = some ds.reverse[i] := by
        rw [← List.getElem?_eq_getElem hi', List.getElem?_reverse (by rw [List.length_reverse] at hi'; exact hi'), hDi.length]
      obtain ⟨t, ht⟩ := hDi.get _ _ e
      rw [ht] at hv
      exact ⟨t, (Option.some.inj hv).symm⟩
    subst hv'
    have ff := dfold_facts hb0 hbn (ds.reverse.take i).reverse fun d hd => hdsm d (List.mem_reverse.mp (List.mem_of_mem_take (List.mem_reverse.mp hd)))
    rw [List.reverse_reverse] at ff
    obtain ⟨hd0, hd1⟩ := hdsm ds.reverse[i] (List.mem_reverse.mp (List.getElem_mem hi'))
    have es : dfold n b (ds.reverse.take (i + 1)) = dstep n b (dfold n b (ds.reverse.take i)) ds.reverse[i] := by
      rw [← dfold_snoc, List.take_add_one, List.getElem?_eq_getElem hi']; rfl
    rw [es]
    generalize hp : dfold n b (ds.reverse.take i) = pr at *
    generalize hdd : ds.reverse[i] = d at *
    obtain ⟨r, qs⟩ := pr
    dsimp only at hr hus ff
    obtain ⟨hr0, hrb, hqb, hql, _⟩ := ff
    rw [chain4 hr hq hb' hn'] at F1
    change Fr g L' h _ at F1
    change News g L' h _ at N1
    dsimp only at F1
    obtain ⟨rn, f4⟩ : ∃ rn : Int, r * 2 ^ ((n : Int)).toNat = rn := ⟨_, rfl⟩
    have hpn : (2 : Int) ^ n ≤ 2 ^ 20 := ipow_le hn2
    have hp0 : (0 : Int) < 2 ^ n := Int.pow_pos (by decide)
    have hrn0 : 0 ≤ rn := by rw [← f4]; exact Int.mul_nonneg hr0 (Int.le_of_lt (Int.pow_pos (by decide)))
    have hrn1 : rn ≤ 2 ^ 40 := by
      rw [← f4, Int.toNat_natCast]
      exact Int.le_trans (Int.mul_le_mul (show r ≤ 2 ^ 20 by omega) hpn (Int.le_of_lt hp0) (by decide)) (by decide)
    have hsl : us.length ≤ 1000 := by
      have : ds.length ≤ 60 := by rw [← hds, digs_len]; exact hmm
      rw [hul]; rw [List.length_reverse] at hi'; omega
    (try k_fold)
    k_steps
    refine div2_H G (fun b o e => F1.keep b o (sg b o e)) (by omega) hb0 (by omega) hb1 (by omega) (by ktr_room) (by ktr_units) ?_
    intro D2 t1 t2 c h2' tk2' kb2 hD2 hD2g
    dsimp only at hD2 kb2
    have hLD2 : @LT.lt Nat _ L' D2 := Nat.lt_of_lt_of_le F1.ns.lt hD2
    have hl2 : @LT.lt Nat _ l' D2 := Nat.lt_of_lt_of_le (Heap.lt_size (N1 _ (.tail _ (.head _))).1) hD2
    have F2 := fr_kb F1 kb2 List.not_mem_nil (fun _ h => nomatch h)
    have N2 := news_cons hD2g (Nat.ne_of_gt hLD2) (Heap.get?_none_of_le (Nat.le_trans F1.above (Nat.le_of_lt hLD2))) (news_kb N1 kb2 (fun _ _ => List.not_mem_nil))
    clear F1 N1
    k_steps
    rename Fr _ _ _ _ => F9
    rename News _ _ _ _ => N9
    refine ⟨rfl, _, _, _, _, rfl, F9, fun p hp => N9 p (.tail _ hp), us ++ [.int ((rn + d) / b) t1], k + 1, t2, tn, ?_, ?_, ?_, ?_, rfl, rfl, rfl⟩
    · rw [List.push_toArray]
    · refine ints_snoc hus rfl ?_
      rw [← f4, Int.toNat_natCast]
    · rw [List.length_append, hul]; rfl
    · show some _ = some _
      rw [← f4, Int.toNat_natCast]; rfl
  · rintro m' nw h' tk' ⟨us, k, tr, tn, rfl, hus, hul, hr, hq, hb', hn'⟩ F1 N1
    rw [chain4 hr hq hb' hn'] at F1
    change Fr g L' h' _ at F1
    change News g L' h' _ at N1
    have etk : ds.reverse.take vs.length = ds.reverse := List.take_of_length_le (by rw [List.length_reverse, hDi.length]; exact Nat.le_refl _)
    rw [etk] at hus F1
    dsimp only at F1 ⊢
    have ld := long_division hb0 hbn _ ha0 hmlt
    have ff := dfold_facts hb0 hbn ds hdsm
    rw [hds] at ld
    generalize hp : dfold n b ds.reverse = pr at *
    obtain ⟨r, qs⟩ := pr
    dsimp only at hus ff ld
    obtain ⟨ld1, ld2⟩ := ld
    subst ld2
    have hsl : us.length ≤ 60 := by
      have : ds.length ≤ 60 := by rw [← hds, digs_len]; exact hmm
      rw [hul, hDi.length]; exact this
    (try k_fold)
    k_steps
    k_dflt (refine' kl_reverse (l := us.reverse) F1 N1 ?e ?U ?z ?_; (case e => exact rfl); (case U => k_upd); (case z => (rw [sizeLine_eq]; simp; omega)))
    intro h2 F2 N2
    clear F1 N1
    k_steps
    rename Fr _ _ _ _ => F1
    rename News _ _ _ _ => N1
    obtain ⟨_, _, hqb, hql, _⟩ := ff
    have hnm : n * ((Builtin.Int.intBits a + n - 1) / n) ≤ 60 := by
      have hb1 := intBits_le ha0 ha1
      have := Nat.mul_div_le (Builtin.Int.intBits a + n - 1) n
      omega
    have hql' : qs.reverse.length = (Builtin.Int.intBits a + n - 1) / n := by rw [List.length_reverse, hql, ← hds, digs_len]
    have hs4 : Sub g₀ _ := fun b o e => F1.keep b o (sg b o e)
    refine d2i_W G hn1 hn2 (ints_rev hus) (fun q hq => hqb q (List.mem_reverse.mp hq)) (by rw [hql']; exact hnm) (by rw [hql']; omega) hs4 (hwg.keep F1.keep).2 (N1 _ (.head _)).1 (none_of sg (N1 _ (.head _)).2.2) (by ktr_room) (by ktr_units) ?_
    intro t h5 tk5 kb5
    dsimp only at kb5
    rw [ld1]
    have F2 := fr_kb (ex := []) F1 (fun b o _ e => kb5 b o e) List.not_mem_nil (fun _ h => nomatch h)
    have N2 := news_kb (ex := []) N1 (fun b o _ e => kb5 b o e) (fun _ _ => List.not_mem_nil)
    clear F1 N1 kb5
    k_steps
    dsimp only
    rename Fr _ _ _ _ => F9
    rename News _ _ _ _ => N9
    refine hret _ _ _ _ _ _ (fun b o e => F9.keep b o (kb b o List.not_mem_nil e)) ?_ (N9 _ (.head _)).1
    rw [hL]; omega
end
section -- A7
set_option maxHeartbeats 8000000
local macro_rules | `(tactic| tb_start) => `(tactic| ((case X => k_asm); (case T => k_asm); (case hs => k_asm); (case ho => k_is); (case hcd => k_is); (case hroom => ktr_room); (case hb => exact rfl); (case hl => exact locs rfl); (case c1 => decide); (case c2 => exact rfl); (case c3 => exact rfl); (case c4 => exact rfl)))
/-- both tables filled, their code objects new since a heap of size n -/
structure WarmD (w : World) (h : Heap) (n : Nat) (c1 c2 : Addr) (oc1 oc2 : Obj) : Prop where
  t1 : h.get? 37 = some (tabObj #[rawInt (innerLit w.params).1.pos.line, rawInt (innerLit w.params).1.pos.col, .ref c1])
  t2 : h.get? 44 = some (tabObj #[rawInt (innerLit2 w.params).1.pos.line, rawInt (innerLit2 w.params).1.pos.col, .ref c2])
  g1 : h.get? c1 = some oc1
  g2 : h.get? c2 = some oc2
  r1 : ∃ vs t, oc1.data = .fields vs ∧ vs[1]? = some (.str innerQ t)
  r2 : ∃ vs t, oc2.data = .fields vs ∧ vs[1]? = some (.str innerQ2 t)
  f1 : n ≤ c1
  f2 : n ≤ c2
theorem WarmD.warm {w : World} {h : Heap} {n : Nat} {c1 c2 : Addr} {oc1 oc2 : Obj} (x : WarmD w h n c1 c2 oc1 oc2) : Warm w h := by
  obtain ⟨vs, t, a, b⟩ := x.r1
  obtain ⟨vs', t', a', b'⟩ := x.r2
  exact ⟨⟨c1, x.t1, c1, oc1, vs, t, rfl, x.g1, a, b⟩, ⟨c2, x.t2, c2, oc2, vs', t', rfl, x.g2, a', b'⟩⟩
theorem dpos_C {w : World} {p : Program} {loose : List Str} {mean : ExcName → Option Value} {mg mb : Str → Option Value} {g₀ : Heap} (G : Gd w p loose mean mg mb g₀)
   {b : Int} {ta tb : Tok} (hb0 : 0 < b) (hb1 : b < 2 ^ 20)
   {dp un : Nat} {fr : Option (List Env)} {gd : Option (List Code)} {s : Shared} {Q E : Value → Shared → Prop} (hs : Sub g₀ s.heap) (ht1 : s.heap.get? 37 = some (tabObj #[])) (ht2 : s.heap.get? 44 = some (tabObj #[]))
   (hdp : dp + 200 < recursionLimit) (hun : un + 1100 < cLine)
   (hret : ∀ D t1 t2 c h' tk' c1 c2 oc1 oc2, KB [37, 44] s.heap h' → WarmD w h' s.heap.objs.size c1 c2 oc1 oc2 → s.heap.objs.size ≤ D → h'.get? D = some (tupO [.int 0 t1, .int 0 t2] c) → Q (.ref D) { s with heap := h', toks := tk' }) :
   wpAny (model PySem.Challenge.rw_ph0093_01.row.prog w) (AA dp un fr gd) (call (.ref 56) [.int 0 ta, .int b tb]) Q E s := by
  have X := G.X
  have T := G.T
  revert X; k_fill; intro X
  k_dflt (refine' enterK (binds := [(Str.ofString "a", .int 0 ta), (Str.ofString "b", .int b tb)]) [(37, tabObj #[]), (44, tabObj #[])] (List.forall_mem_cons.mpr ⟨ht1, List.forall_mem_cons.mpr ⟨ht2, fun _ h => nomatch h⟩⟩) ?X ?T ?hs (List.forall_mem_cons.mpr ⟨G.n1, List.forall_mem_cons.mpr ⟨G.n2, fun _ h => nomatch h⟩⟩) ?ho ?hcd ?hroom ?hb ?hl ?_ ?c1 ?c2 ?c3 ?c4; tb_start)
  intro g L' h₁ F N kb sb sg X' T' hL hl
  k_lt hl
  (try dsimp only)
  (try k_fold)
  k_steps
  rename Fr _ _ _ _ => F1
  rename News _ _ _ _ => N1
  have hn1 : 1 ≤ Builtin.Int.intBits b := intBits_pos (by omega)
  have hn2 : Builtin.Int.intBits b ≤ 20 := by have := intBits_le (Int.le_of_lt hb0) hb1; omega
  refine i2d_C G hn1 hn2 (fun b o e => F1.keep b o (sg b o e)) (N1 _ (.head _)).1 (by ktr_room) (by ktr_units) ?_
  intro D ep h2 tk2 c oc vs t kb2 hD hDg h37 hc hcg hcd hcv hne
  dsimp only at hD hDg kb2 hc
  have hLD : @LT.lt Nat _ L' D := Nat.lt_of_lt_of_le F1.ns.lt hD
  have hLc : @LT.lt Nat _ L' c := Nat.lt_of_lt_of_le F1.ns.lt hc
  have F2 := fr_kb F1 kb2 (by have := (N1 _ (.head _)).2.1; simpa using Ne.symm this) (by have := (N1 _ (.head _)).2.2; simpa using this)
  have N2 := news_cons hDg (Nat.ne_of_gt hLD) (Heap.get?_none_of_le (Nat.le_trans F1.above (Nat.le_of_lt hLD))) (news_cons hcg (Nat.ne_of_gt hLc) (Heap.get?_none_of_le (Nat.le_trans F1.above (Nat.le_of_lt hLc))) (news_cons h37 (N1 _ (.head _)).2.1 (N1 _ (.head _)).2.2 (news_kb (fun p hp => N1 p (.tail _ hp)) kb2 (by
        intro p hp
        simp only [List.mem_cons, List.not_mem_nil, or_false] at hp ⊢
        subst hp; exact (by decide : ¬ (44 = 37))))))
  clear F1 N1 kb2
  k_steps
  rename Fr _ _ _ _ => F1
  rename News _ _ _ _ => N1
  change Fr g L' _ _ at F1
  change News g L' _ _ at N1
  have hs4 : Sub g₀ _ := fun b o e => F1.keep b o (sg b o e)
  refine d2i_C G hn1 hn2 hs4 (N1 _ (.tail _ (.tail _ (.tail _ (.tail _ (.head _)))))).1 (N1 _ (.head _)).1 (none_of sg (N1 _ (.head _)).2.2) (by ktr_room) (by ktr_units) ?_
  intro t5 h5 tk5 c2 oc2 vs2 t2 kb5 h44 hc2 hcg2 hcd2 hcv2
  dsimp only at kb5 hc2
  have hLc2 : @LT.lt Nat _ L' c2 := Nat.lt_of_lt_of_le F1.ns.lt hc2
  have F2 := fr_kb F1 kb5 (by have := (N1 _ (.tail _ (.tail _ (.tail _ (.tail _ (.head _)))))).2.1; simpa using Ne.symm this) (by have := (N1 _ (.tail _ (.tail _ (.tail _ (.tail _ (.head _)))))).2.2; simpa using this)
  have N2 := news_cons hcg2 (Nat.ne_of_gt hLc2) (Heap.get?_none_of_le (Nat.le_trans F1.above (Nat.le_of_lt hLc2))) (news_rep N1 (by k_upd) kb5 h44)
  clear F1 N1 kb5
  k_steps
  dsimp only
  rename Fr _ _ _ _ => F9
  rename News _ _ _ _ => N9
  refine hret _ _ _ _ _ _ c c2 oc oc2 (fun b o hb e => F9.keep b o (kb b o hb e)) ⟨(N9 _ (.tail _ (.tail _ (.tail _ (.tail _ (.tail _ (.head _))))))).1, (N9 _ (.tail _ (.tail _ (.tail _ (.tail _ (.tail _ (.tail _ (.head _)))))))).1, (N9 _ (.tail _ (.tail _ (.tail _ (.tail _ (.head _)))))).1, (N9 _ (.tail _ (.head _))).1, ⟨_, _, hcd, hcv⟩, ⟨_, _, hcd2, hcv2⟩, ?_, ?_⟩ ?_ (N9 _ (.head _)).1
  · rw [hL]; exact Nat.le_of_lt hLc
  · rw [hL]; exact Nat.le_of_lt hLc2
  · rw [hL]; omega

theorem idm_W {w : World} {p : Program} {loose : List Str} {mean : ExcName → Option Value} {mg mb : Str → Option Value} {g₀ : Heap} (G : Gd w p loose mean mg mb g₀)
   {a b : Int} {ta tb : Tok} (ha0 : 0 ≤ a) (ha1 : a < 2 ^ 40) (hb0 : 0 < b) (hb1 : b < 2 ^ 20)
   {dp un : Nat} {fr : Option (List Env)} {gd : Option (List Code)} {s : Shared} {Q E : Value → Shared → Prop} (hs : Sub g₀ s.heap) (hw : Warm w s.heap)
   (hdp : dp + 210 < recursionLimit) (hun : un + 1110 < cLine)
   (hret : ∀ D t1 t2 c h' tk', Sub s.heap h' → s.heap.objs.size ≤ D → h'.get? D = some (tupO [.int (a / b) t1, .int (a % b) t2] c) → Q (.ref D) { s with heap := h', toks := tk' }) :
   wpAny (model PySem.Challenge.rw_ph0093_01.row.prog w) (AA dp un fr gd) (call (.ref 63) [.int a ta, .int b tb]) Q E s := by
  have X := G.X
  have T := G.T
  revert X; k_fill; intro X
  k_dflt (refine' enterK (binds := [(Str.ofString "a", .int a ta), (Str.ofString "b", .int b tb)]) [] (fun _ h => nomatch h) ?X ?T ?hs (fun _ h => nomatch h) ?ho ?hcd ?hroom ?hb ?hl ?_ ?c1 ?c2 ?c3 ?c4; tb_start)
  intro g L' h₁ F N kb sb sg X' T' hL hl
  have hwg : Warm w g := hw.keep fun b o e => kb b o List.not_mem_nil e
  (try dsimp only)
  (try k_fold)
  k_steps
  · exfalso; omega
  rename Fr _ _ _ _ => F1
  rename News _ _ _ _ => N1
  refine dpos_W G ha0 ha1 hb0 hb1 (fun b o e => F1.keep b o (sg b o e)) (hwg.keep F1.keep) (by ktr_room) (by ktr_units) ?_
  intro D t1 t2 c h2 tk2 kb2 hD hDg
  exact hret _ _ _ _ _ _ (fun b o e => kb2 b o (F1.keep b o (kb b o List.not_mem_nil e))) (by rw [hL]; exact Nat.le_trans (Nat.le_of_lt F1.ns.lt) hD) hDg

theorem idm_C {w : World} {p : Program} {loose : List Str} {mean : ExcName → Option Value} {mg mb : Str → Option Value} {g₀ : Heap} (G : Gd w p loose mean mg mb g₀)
   {b : Int} {ta tb : Tok} (hb0 : 0 < b) (hb1 : b < 2 ^ 20)
   {dp un : Nat} {fr : Option (List Env)} {gd : Option (List Code)} {s : Shared} {Q E : Value → Shared → Prop} (hs : Sub g₀ s.heap) (ht1 : s.heap.get? 37 = some (tabObj #[])) (ht2 : s.heap.get? 44 = some (tabObj #[]))
   (hdp : dp + 210 < recursionLimit) (hun : un + 1110 < cLine)
   (hret : ∀ D t1 t2 c h' tk' c1 c2 oc1 oc2, KB [37, 44] s.heap h' → WarmD w h' s.heap.objs.size c1 c2 oc1 oc2 → s.heap.objs.size ≤ D → h'.get? D = some (tupO [.int 0 t1, .int 0 t2] c) → Q (.ref D) { s with heap := h', toks := tk' }) :
   wpAny (model PySem.Challenge.rw_ph0093_01.row.prog w) (AA dp un fr gd) (call (.ref 63) [.int 0 ta, .int b tb]) Q E s := by
  have X := G.X
  have T := G.T
  revert X; k_fill; intro X
  k_dflt (refine' enterK (binds := [(Str.ofString "a", .int 0 ta), (Str.ofString "b", .int b tb)]) [(37, tabObj #[]), (44, tabObj #[])] (List.forall_mem_cons.mpr ⟨ht1, List.forall_mem_cons.mpr ⟨ht2, fun _ h => nomatch h⟩⟩) ?X ?T ?hs (List.forall_mem_cons.mpr ⟨G.n1, List.forall_mem_cons.mpr ⟨G.n2, fun _ h => nomatch h⟩⟩) ?ho ?hcd ?hroom ?hb ?hl ?_ ?c1 ?c2 ?c3 ?c4; tb_start)
  intro g L' h₁ F N kb sb sg X' T' hL hl
  k_lt hl
  (try dsimp only)
  (try k_fold)
  k_steps
  · exfalso; omega
  rename Fr _ _ _ _ => F1
  rename News _ _ _ _ => N1
  refine dpos_C G hb0 hb1 (fun b o e => F1.keep b o (sg b o e)) (N1 _ (.head _)).1 (N1 _ (.tail _ (.head _))).1 (by ktr_room) (by ktr_units) ?_
  intro D t1 t2 c h2 tk2 c1 c2 oc1 oc2 kb2 hw2 hD hDg
  have hle := Nat.le_of_lt F1.ns.lt
  rw [← hL] at hle
  exact hret _ _ _ _ _ _ c1 c2 oc1 oc2 (fun b o hb e => kb2 b o hb (F1.keep b o (kb b o hb e))) ⟨hw2.t1, hw2.t2, hw2.g1, hw2.g2, hw2.r1, hw2.r2, Nat.le_trans hle hw2.f1, Nat.le_trans hle hw2.f2⟩ (Nat.le_trans hle hD) hDg
end
section -- S1
set_option maxHeartbeats 8000000
theorem enterHE {prog : Program} {w : World} {dp un : Nat} {fr : Option (List Env)} {gd : Option (List Code)} {s : Shared} {Q E : Value → Shared → Prop} {name qual : Str} {params : Arguments} {body : Expr} {scope : Scope} {cl : List (Str × Addr)} {pm ctv : Value} {c' f : Addr} {args : List Value} {binds : List (Str × Value)}
    (hid : List (Addr × Obj)) (hhid : ∀ p ∈ hid, s.heap.get? p.1 = some p.2) (hlim : s.heap.NoLimit)
    (ho : s.heap.get? f = some (kla_obj name qual params body scope cl pm c' ctv)) (hcd : s.heap.CodeRec (.ref c') qual) (hroom : dp < recursionLimit)
    (hbind : bindArgs (kla_fn name qual params body scope cl pm (.ref c') ctv) ⟨args, []⟩ = pure binds) (hloc : ∀ y ∈ binds, scope.names.lookup y.1 = some .local)
    (h : ∀ g L' h₁, Fr g L' h₁ (fun y => binds.reverse.lookup y) → News g L' h₁ hid → KB (hid.map (·.1)) s.heap g → Sub g s.heap → s.heap.objs.size = L' → (∀ p ∈ hid, p.1 < L') →
      wpAny (model prog w) ((AA dp un fr gd).deeper (envX qual scope L' f (.ref c') cl)) (eval body (envX qual scope L' f (.ref c') cl))
        (fun v s' => Q v s') (fun _ _ => False)
        { s with heap := h₁, toks := s.toks + binds.length })
    (hcell : ∀ x ∈ scope.names, x.2 ≠ .cell) (hco : scope.isCoroutine = false) (hgen : scope.isGenerator = false) (hk : scope.kind = .function) :
    wpAny (model prog w) (AA dp un fr gd) (call (.ref f) args) Q E s := by
  refine wpAny_call ?_
  refine kla_callFunE hroom ho rfl hco hgen rfl hcd ?_
  rw [hbind]
  refine wpAny_pure (wpAny_newFunctionEnv hcell hloc (fun h₁ hns hsb => ⟨hlim.fresh _ hsb, ?_⟩) hk)
  show codeAny _ _ (.expr body (envX qual scope s.heap.objs.size f (.ref c') cl)) _ _
  have hk₁ : ∀ b o, s.heap.get? b = some o → h₁.get? b = some o := fun b o e => hsb.extBut b o (Nat.ne_of_lt (Heap.lt_size e)) (Heap.get?_push_of_some _ e)
  exact kla_codeExpr (wpAny_mono (h (hideAll s.heap (hid.map (·.1))) s.heap.objs.size h₁ ⟨hns, fun b o e => hk₁ b o (of_hideAll _ e), Nat.le_of_eq (hideAll_size _ _)⟩
    (fun p hp => ⟨hk₁ _ _ (hhid p hp), Nat.ne_of_lt (Heap.lt_size (hhid p hp)), hideAll_none _ (List.mem_map_of_mem hp)⟩) (fun b o hb e => hideAll_get _ e hb) (fun b o e => of_hideAll _ e) rfl
    (fun p hp => Heap.lt_size (hhid p hp))) (fun v s' hl => hl) fun _ _ y => y.elim)
theorem sub_of {h g h9 : Heap} {L : Addr} {m : Str → Option Value} {hid hid' : List (Addr × Obj)} (kb : KB (hid.map (·.1)) h g) (F : Fr g L h9 m) (N : News g L h9 hid') (hh : ∀ p ∈ hid, h.get? p.1 = some p.2) (hs : ∀ p ∈ hid, p ∈ hid') : Sub h h9 := fun b o e => by
  by_cases hb : b ∈ hid.map (·.1)
  · obtain ⟨p, hp, rfl⟩ := List.mem_map.mp hb
    rw [hh p hp] at e
    cases e
    exact (N p (hs p hp)).1
  · exact F.keep b o (kb b o hb e)
structure LamLit where
  params : Arguments
  body : Expr
  scope : Scope
  pos : Pos
def lamLit (P : Params) : { q : LamLit // ∃ oc od name qual params s1 s2 tgt it tg2 fn a1 kw p1 p2 r1 r2 p3 r3 scope dV kV doc pm an cdv ct osl, (hd.heap_39 P).lookup 68 = some ⟨oc, od, .func (fnOf name qual params (s1 :: s2 :: .For tgt it (.Assign tg2 (.Call fn [a1, .Lambda q.params q.body q.scope q.pos] kw p1) p2 :: r1) r2 p3 :: r3) scope dV kV doc pm an cdv ct), osl⟩ } := 
  ⟨⟨_, _, _, _⟩, _, _, _, _, _, _, _, _, _, _, _, _, _, _, _, _, _, _, _, _, _, _, _, _, _, _, _, _, rfl⟩
abbrev lamQ : Str := Str.ofString "_law_dealt" ++ ".<locals>." ++ Str.ofString "<lambda>"
def lamFn (P : Params) (cp : Addr) (pm : Value) (c' : Addr) (ctv : Value) : Obj :=
  kla_obj (Str.ofString "<lambda>") lamQ (lamLit P).1.params (lamLit P).1.body (lamLit P).1.scope [(Str.ofString "pile", cp)] pm c' ctv
/-- a told card: ((turn, pile), card) -/
def Spot (h : Heap) (v : Value) (q r : Int) (card : Value) : Prop :=
  ∃ T1 T2 c1 c2 t1 t2, v = .ref T1 ∧ h.get? T1 = some (tupO [.ref T2, card] c1) ∧ h.get? T2 = some (tupO [.int q t1, .int r t2] c2)
theorem Spot.keep {h h' : Heap} {v card : Value} {q r : Int} (x : Spot h v q r card) (k : Sub h h') : Spot h' v q r card :=
  let ⟨T1, T2, c1, c2, t1, t2, e, a, b⟩ := x; ⟨T1, T2, c1, c2, t1, t2, e, k _ _ a, k _ _ b⟩
theorem lam_H {w : World} {p : Program} {loose : List Str} {mean : ExcName → Option Value} {mg mb : Str → Option Value} {g₀ : Heap} (G : Gd w p loose mean mg mb g₀)
   {f c' cp : Addr} {op : Obj} {pm ctv : Value} {pile : Int} {tp : Tok} {v card : Value} {q r : Int}
   {dp un : Nat} {fr : Option (List Env)} {gd : Option (List Code)} {s : Shared} {Q E : Value → Shared → Prop} (hs : Sub g₀ s.heap)
   (hf : s.heap.get? f = some (lamFn w.params cp pm c' ctv)) (hcd : s.heap.CodeRec (.ref c') lamQ) (hp : s.heap.get? cp = some op) (hp' : op.data = .cell (some (.int pile tp)))
   (hv : Spot s.heap v q r card) (hdp : dp + 10 < recursionLimit) (hun : un + 50 < cLine)
   (hret : ∀ h' tk', Sub s.heap h' → Q (.bool (r == pile)) { s with heap := h', toks := tk' }) :
   wpAny (model PySem.Challenge.rw_ph0093_01.row.prog w) (AA dp un fr gd) (call (.ref f) [v]) Q E s := by
  have X := G.X
  have T := G.T
  revert X; k_fill; intro X
  obtain ⟨T1, T2, k1, k2, t1, t2, rfl, h1, h2⟩ := hv
  have hf2 := hf
  unfold lamFn at hf2
  refine enterHE (binds := [(Str.ofString "spot", .ref T1)]) [(T1, tupO [.ref T2, card] k1), (T2, tupO [.int q t1, .int r t2] k2), (cp, op)]
    (by simp only [List.forall_mem_cons, List.not_mem_nil, false_imp_iff, implies_true, and_true]; exact ⟨h1, h2, hp⟩) (T.nolimit.keeps hs) hf2 hcd (by omega) rfl (locs rfl) ?_ (by dsimp only [lamLit]; decide) rfl rfl rfl
  intro g L' h₁ F N kb sb hL hl
  k_lt hl
  have c1 := G.c3
  have ng : g.get? T1 = none := (N _ (.head _)).2.2
  dsimp only [lamLit]
  (try k_fold)
  k_steps
  exact hret _ _ (sub_of kb F N (by simp only [List.forall_mem_cons, List.not_mem_nil, false_imp_iff, implies_true, and_true]; exact ⟨h1, h2, hp⟩) fun _ h => h)
end
section -- S2
set_option maxHeartbeats 8000000
/-- a told card as data -/
structure It where
  v : Value
  q : Int
  r : Int
  card : Value
def Spots (h : Heap) (its : List It) : Prop := ∀ i ∈ its, Spot h i.v i.q i.r i.card
theorem Spots.keep {h h' : Heap} {its : List It} (x : Spots h its) (k : Sub h h') : Spots h' its := fun i hi => (x i hi).keep k
theorem chain3 {m : Str → Option Value} {k1 k2 k3 : Str} {v1 v2 v3 : Option Value} (h1 : m k1 = v1) (h2 : m k2 = v2) (h3 : m k3 = v3) : m = fun y => if y = k1 then v1 else if y = k2 then v2 else if y = k3 then v3 else m y := by
  funext y
  by_cases e1 : y = k1
  · rw [if_pos e1, e1, h1]
  rw [if_neg e1]
  by_cases e2 : y = k2
  · rw [if_pos e2, e2, h2]
  rw [if_neg e2]
  by_cases e3 : y = k3
  · rw [if_pos e3, e3, h3]
  rw [if_neg e3]
theorem fresh_of {h g : Heap} {ex : List Addr} {a : Addr} (kb : KB ex h g) (hg : g.get? a = none) (ha : a ∉ ex) : h.get? a = none := by
  cases e : h.get? a with
  | none => rfl
  | some o => rw [kb _ _ ha e] at hg; cases hg
section
variable {pile : Int} (x : It)
theorem filt_yes (h : x.r = pile) : ([x].filter fun i => i.r == pile) = [x] := by simp [h]
theorem filt_no (h : x.r = pile) : ([x].filter fun i => !(i.r == pile)) = [] := by simp [h]
theorem filt_yes' (h : x.r ≠ pile) : ([x].filter fun i => i.r == pile) = [] := by simp [h]
theorem filt_no' (h : x.r ≠ pile) : ([x].filter fun i => !(i.r == pile)) = [x] := by simp [h]
end
local macro_rules | `(tactic| tb_start) => `(tactic| ((case X => k_asm); (case T => k_asm); (case hs => k_asm); (case ho => k_is); (case hcd => k_is); (case hroom => ktr_room); (case hb => exact rfl); (case hl => exact locs rfl); (case c1 => decide); (case c2 => exact rfl); (case c3 => exact rfl); (case c4 => exact rfl)))
theorem split_H {w : World} {p : Program} {loose : List Str} {mean : ExcName → Option Value} {mg mb : Str → Option Value} {g₀ : Heap} (G : Gd w p loose mean mg mb g₀)
   {f c' cp ls : Addr} {op : Obj} {pm ctv : Value} {pile : Int} {tp : Tok} {its : List It} {ep : Nat}
   {dp un : Nat} {fr : Option (List Env)} {gd : Option (List Code)} {s : Shared} {Q E : Value → Shared → Prop} (hs : Sub g₀ s.heap)
   (hf : s.heap.get? f = some (lamFn w.params cp pm c' ctv)) (hgf : g₀.get? f = none) (hcd : s.heap.CodeRec (.ref c') lamQ) (hp : s.heap.get? cp = some op) (hp' : op.data = .cell (some (.int pile tp)))
   (hl : s.heap.get? ls = some (listOf (its.map It.v).toArray ep)) (hv : Spots s.heap its) (hlen : its.length ≤ 100) (hdp : dp + 20 < recursionLimit) (hun : un + 100 < cLine)
   (hret : ∀ D Y N c e1 e2 h' tk', Sub s.heap h' → @LT.lt Nat _ f Y → @LT.lt Nat _ f N → @LT.lt Nat _ f D → h'.get? D = some (tupO [.ref Y, .ref N] c) → h'.get? Y = some (listOf ((its.filter fun i => i.r == pile).map It.v).toArray e1) → h'.get? N = some (listOf ((its.filter fun i => !(i.r == pile)).map It.v).toArray e2) →
     @Ne Nat D Y → @Ne Nat D N → @Ne Nat Y N → Q (.ref D) { s with heap := h', toks := tk' }) :
   wpAny (model PySem.Challenge.rw_ph0093_01.row.prog w) (AA dp un fr gd) (call (.ref 21) [.ref ls, .ref f]) Q E s := by
  have X := G.X
  have T := G.T
  revert X; k_fill; intro X
  have hfl : ls ≠ f := fun q => by
    rw [q, hf] at hl
    have := congrArg Obj.data (Option.some.inj hl)
    cases this
  k_dflt (refine' enterK (binds := [(Str.ofString "s", .ref ls), (Str.ofString "predicate", .ref f)]) [(f, lamFn w.params cp pm c' ctv)] (List.forall_mem_cons.mpr ⟨hf, fun _ h => nomatch h⟩) ?X ?T ?hs (List.forall_mem_cons.mpr ⟨hgf, fun _ h => nomatch h⟩) ?ho ?hcd ?hroom ?hb ?hl ?_ ?c1 ?c2 ?c3 ?c4; tb_start)
  intro g L' h₁ F N kb sb sg X' T' hL hl'
  k_lt hl'
  have c1' := G.c3.keeps sg
  have hlg : g.IsList ls (its.map It.v).toArray := ⟨_, kb _ _ (by simpa using hfl) hl, rfl, _, rfl⟩
  unfold lamFn at N
  dsimp only [lamLit] at N ⊢
  (try k_fold)
  k_steps
  rename Fr _ _ _ _ => F1
  rename News _ _ _ _ => N1
  rename_i Y h3 l1 h4 Z h5 l2 h6
  (with_unfolding_all refine' For_invVF F1 ?k1 ?k2 ?_; (case k1 => exact rfl); (case k2 => exact rfl))
  k_steps
  refine iter_list (vs := its.map It.v) (fun i m nw => ∃ e1 e2, nw = [(Z, listOf (((its.take i).filter fun i => !(i.r == pile)).map It.v).toArray e2), (Y, listOf (((its.take i).filter fun i => i.r == pile).map It.v).toArray e1), (f, lamFn w.params cp pm c' ctv)] ∧
      m (Str.ofString "yes") = some (.ref Y) ∧ m (Str.ofString "no") = some (.ref Z) ∧ m (Str.ofString "predicate") = some (.ref f))
    rfl hlg F1 N1 ?_ ?_ ?_ ?_
  · exact ⟨0, 0, rfl, rfl, rfl, rfl⟩
  · rintro i m nw ⟨e1, e2, rfl, _⟩ p hp
    simp only [List.mem_cons, List.not_mem_nil, or_false] at hp
    rcases hp with rfl | rfl | rfl
    · exact Nat.ne_of_lt (Heap.lt_size (N1 _ (.head _)).1)
    · exact Nat.ne_of_lt (Heap.lt_size (N1 _ (.tail _ (.head _))).1)
    · exact Nat.ne_of_lt (Heap.lt_size (N1 _ (.tail _ (.tail _ (.head _)))).1)
  · rintro i v m₁ nw it h tk hi hvi ⟨e1, e2, rfl, hy, hn, hpr⟩ F2 N2
    rw [chain3 hy hn hpr] at F2
    change Fr g L' h _ at F2
    change News g L' h _ at N2
    have hsub : Sub s.heap h := sub_of kb F2 N2 (List.forall_mem_cons.mpr ⟨hf, fun _ h => nomatch h⟩) (fun p hp => .tail _ (.tail _ (.tail _ hp)))
    have hi' : i < its.length := by simpa using hi
    have evi : v = its[i].v := by
      rw [List.getElem?_map, List.getElem?_eq_getElem hi'] at hvi
      exact (Option.some.inj hvi).symm
    have hsp : Spot h its[i].v its[i].q its[i].r its[i].card := (hv _ (List.getElem_mem hi')).keep hsub
    have et : its.take (i + 1) = its.take i ++ [its[i]] := by rw [List.take_add_one, List.getElem?_eq_getElem hi']; rfl
    rw [et]
    have hb1 : ((its.take i).filter fun i => i.r == pile).length ≤ 100 := Nat.le_trans (List.length_filter_le _ _) (Nat.le_trans (List.length_take_le _ _) (by omega))
    have hb2 : ((its.take i).filter fun i => !(i.r == pile)).length ≤ 100 := Nat.le_trans (List.length_filter_le _ _) (Nat.le_trans (List.length_take_le _ _) (by omega))
    generalize its.take i = tk9 at *
    generalize its[i] = x at *
    subst evi
    obtain ⟨xv, xq, xr, xc⟩ := x
    obtain ⟨T1, hT1⟩ : ∃ T1, xv = .ref T1 := let ⟨T1, _, _, _, _, _, e, _⟩ := hsp; ⟨T1, e⟩
    dsimp only at hT1 hsp
    subst hT1
    rw [List.filter_append, List.filter_append, List.map_append, List.map_append]
    generalize hA : (tk9.filter fun i => i.r == pile).map It.v = ys at *
    generalize hB : (tk9.filter fun i => !(i.r == pile)).map It.v = zs at *
    have hys : ys.length ≤ 100 := by rw [← hA, List.length_map]; exact hb1
    have hzs : zs.length ≤ 100 := by rw [← hB, List.length_map]; exact hb2
    have hI : @LT.lt Nat _ Z h6.objs.size := Heap.lt_size (N1 _ (.head _)).1
    unfold lamFn at N2
    dsimp only [lamLit] at F2 N2 ⊢
    (try k_fold)
    k_steps
    refine lam_H G (fun b o e => F2.keep b o (sg b o e)) (N2 _ (.tail _ (.tail _ (.tail _ (.head _))))).1 (hcd.keeps hsub) (hsub _ _ hp) hp' hsp (by ktr_room) (by ktr_units) ?_
    intro h7 tk7 kb7
    dsimp only at kb7
    have F3 := fr_kb (ex := []) F2 (fun b o _ e => kb7 b o e) List.not_mem_nil (fun _ h => nomatch h)
    have N3 := news_kb (ex := []) N2 (fun b o _ e => kb7 b o e) (fun _ _ => List.not_mem_nil)
    clear F2 N2 kb7
    k_steps
    · rename Fr _ _ _ _ => F9
      rename News _ _ _ _ => N9
      rename xr = pile => hx
      refine ⟨rfl, _, _, _, _, rfl, F9, N9, e1 + 1, e2, ?_, rfl, rfl, rfl⟩
      rw [filt_yes _ (by simpa using hx), filt_no _ (by simpa using hx), List.push_toArray, List.map_nil, List.append_nil]
      rfl
    · rename Fr _ _ _ _ => F9
      rename News _ _ _ _ => N9
      rename xr ≠ pile => hx
      refine ⟨rfl, _, _, _, _, rfl, F9, N9, e1, e2 + 1, ?_, rfl, rfl, rfl⟩
      rw [filt_yes' _ (by simpa using hx), filt_no' _ (by simpa using hx), List.push_toArray, List.map_nil, List.append_nil]
      rfl
  · rintro m' nw h' tk' ⟨e1, e2, rfl, hy, hn, hpr⟩ F2 N2
    rw [chain3 hy hn hpr] at F2
    change Fr g L' h' _ at F2
    change News g L' h' _ at N2
    have etk : its.take (its.map It.v).length = its := List.take_of_length_le (by simp)
    rw [etk] at N2
    (try k_fold)
    k_steps
    dsimp only
    rename Fr _ _ _ _ => F9
    rename News _ _ _ _ => N9
    refine hret _ _ _ _ _ _ _ _ (sub_of kb F9 N9 (List.forall_mem_cons.mpr ⟨hf, fun _ h => nomatch h⟩) (fun p hp => .tail _ (.tail _ (.tail _ hp)))) ?_ ?_ ?_ (N9 _ (.head _)).1 (N9 _ (.tail _ (.tail _ (.head _)))).1 (N9 _ (.tail _ (.head _))).1 ?_ ?_ ?_
    · omega
    · omega
    · omega
    · omega
    · omega
    · omega
end
section -- B4
set_option maxHeartbeats 8000000
open LCg in
/-- the end of a comprehension's element -/
def EltP (h₀ : Heap) (L : Addr) (m : Str → Option Value) (s : Shared) (I : Addr) (oI : Obj) (C : Addr) (oC : Obj) (D : Addr) (oD : Obj) (S : List (Addr × Obj) → Prop) (J : Value → List (Addr × Obj) → Prop) (y : Value) (s₂ : Shared) : Prop :=
  ∃ h' tk' news', s₂ = { s with heap := h', toks := tk' } ∧ Fr h₀ L h' m ∧ News h₀ L h' ((I, oI) :: (C, oC) :: (D, oD) :: news') ∧ (∀ p ∈ news', p.1 ≠ I ∧ p.1 ≠ C ∧ p.1 ≠ D) ∧ S news' ∧ J y news'
open LCg in
theorem compRest_inv {prog : Program} {w : World} {A : Around} {h₀ : Heap} {L : Addr} {m : Str → Option Value} {env : Env} {elt : Expr} {x : Str} {scope : Scope} {cl : List (Str × Addr)} {s : Shared} {S : List (Addr × Obj) → Prop} {P : Nat → Value → Prop}
    {Fin : List Value → List (Addr × Obj) → Prop} (n : Nat) (J : Nat → List Value → List (Addr × Obj) → Prop)
    (turn : ∀ i ys news v I oI C oC D m₂ h tk (E' : Value → Shared → Prop), i < n → J i ys news → P i v → NsObj oC m₂ → m₂ x = some v → Fr h₀ L h m → News h₀ L h ((I, oI) :: (C, oC) :: (D, lst ys) :: news) → (∀ p ∈ news, p.1 ≠ I ∧ p.1 ≠ C ∧ p.1 ≠ D) →
      wpAny (model prog w) A (eval elt (compEnvC scope cl C env)) (EltP h₀ L m s I oI C oC D (lst ys) S (fun y news' => J (i + 1) (ys ++ [y]) news')) E' { s with heap := h, toks := tk })
    (fin : ∀ ys news, J n ys news → Fin ys news) : ∀ (k i : Nat) (ys : List Value) (news : List (Addr × Obj)), i + k = n → J i ys news → CompRest prog w A h₀ L m env elt x scope cl s S P Fin k i ys news
  | 0, i, ys, news, e, hJ => by
    have : i = n := by omega
    subst this
    exact fin ys news hJ
  | k + 1, i, ys, news, e, hJ => by
    refine CompRest.succ fun v I oI C oC D m₂ h tk E' hP hC hx F N off ne => ?_
    refine wpAny_mono (turn i ys news v I oI C oC D m₂ h tk E' (by omega) hJ hP hC hx F N (Off3.mem off)) (fun y s₂ hq => ?_) fun _ _ z => z
    obtain ⟨h', tk', news', rfl, F', N', off', hS, hJ'⟩ := hq
    exact ⟨h', tk', news', rfl, F', N', Off3.of off', hS, compRest_inv n J turn fin k (i + 1) (ys ++ [y]) news' (by omega) hJ'⟩
end
section -- D0
set_option maxHeartbeats 8000000
def SpotL (l : List (Addr × Obj)) (i : It) : Prop := ∃ T1 T2 c1 c2 t1 t2, i.v = .ref T1 ∧ (T1, tupO [.ref T2, i.card] c1) ∈ l ∧ (T2, tupO [.int i.q t1, .int i.r t2] c2) ∈ l
def SpotsL (l : List (Addr × Obj)) (its : List It) : Prop := ∀ i ∈ its, SpotL l i
theorem SpotL.mono {l l' : List (Addr × Obj)} {i : It} (x : SpotL l i) (hs : ∀ p ∈ l, p.1 ≠ 37 → p.1 ≠ 44 → p ∈ l') (h1 : ∀ p ∈ l, p.1 = 37 ∨ p.1 = 44 → ∃ ps, p.2 = tabObj ps) : SpotL l' i := by
  obtain ⟨T1, T2, c1, c2, t1, t2, e, a, b⟩ := x
  have ne : ∀ {T : Addr} {vs : List Value} {c : Nat}, (T, tupO vs c) ∈ l → T ≠ 37 ∧ T ≠ 44 := fun hm => by
    constructor <;> intro q <;> (obtain ⟨ps, hps⟩ := h1 _ hm (by simp [q]); have := congrArg Obj.data hps; cases this)
  exact ⟨T1, T2, c1, c2, t1, t2, e, hs _ a (ne a).1 (ne a).2, hs _ b (ne b).1 (ne b).2⟩
theorem SpotL.sub {l l' : List (Addr × Obj)} {i : It} (x : SpotL l i) (hs : ∀ p ∈ l, p ∈ l') : SpotL l' i :=
  let ⟨T1, T2, c1, c2, t1, t2, e, a, b⟩ := x; ⟨T1, T2, c1, c2, t1, t2, e, hs _ a, hs _ b⟩
theorem SpotL.spot {g h : Heap} {L : Addr} {l : List (Addr × Obj)} {i : It} (x : SpotL l i) (N : News g L h l) : Spot h i.v i.q i.r i.card :=
  let ⟨T1, T2, c1, c2, t1, t2, e, a, b⟩ := x; ⟨T1, T2, c1, c2, t1, t2, e, (N _ a).1, (N _ b).1⟩
def WarmIn (w : World) (l : List (Addr × Obj)) : Prop := ∃ c1 c2 oc1 oc2, (37, tabObj #[rawInt (innerLit w.params).1.pos.line, rawInt (innerLit w.params).1.pos.col, .ref c1]) ∈ l ∧ (44, tabObj #[rawInt (innerLit2 w.params).1.pos.line, rawInt (innerLit2 w.params).1.pos.col, .ref c2]) ∈ l ∧
  (c1, oc1) ∈ l ∧ (c2, oc2) ∈ l ∧ (∃ vs t, oc1.data = .fields vs ∧ vs[1]? = some (.str innerQ t)) ∧ ∃ vs t, oc2.data = .fields vs ∧ vs[1]? = some (.str innerQ2 t)
theorem WarmIn.sub {w : World} {l l' : List (Addr × Obj)} (x : WarmIn w l) (hs : ∀ p ∈ l, p ∈ l') : WarmIn w l' :=
  let ⟨c1, c2, oc1, oc2, a, b, c, d, e, f⟩ := x; ⟨c1, c2, oc1, oc2, hs _ a, hs _ b, hs _ c, hs _ d, e, f⟩
theorem WarmIn.warm {w : World} {g h : Heap} {L : Addr} {l : List (Addr × Obj)} (x : WarmIn w l) (N : News g L h l) : Warm w h := by
  obtain ⟨c1, c2, oc1, oc2, a, b, c, d, ⟨vs, t, e1, e2⟩, ⟨vs', t', f1, f2⟩⟩ := x
  exact ⟨⟨c1, (N _ a).1, c1, oc1, vs, t, rfl, (N _ c).1, e1, e2⟩, ⟨c2, (N _ b).1, c2, oc2, vs', t', rfl, (N _ d).1, f1, f2⟩⟩
abbrev coldl : List (Addr × Obj) := [(37, tabObj #[]), (44, tabObj #[])]
/-- the tables' state: filled (in the ledger or below), or the first time (and then the number is 0) -/
def Wst (w : World) (g : Heap) (l : List (Addr × Obj)) : Prop := WarmIn w l ∨ Warm w g
theorem Wst.sub {w : World} {g : Heap} {l l' : List (Addr × Obj)} (x : Wst w g l) (hs : ∀ p ∈ l, p ∈ l') : Wst w g l' := x.imp (·.sub hs) id
theorem Wst.warm {w : World} {g h : Heap} {L : Addr} {m : Str → Option Value} {l : List (Addr × Obj)} (x : Wst w g l) (F : Fr g L h m) (N : News g L h l) : Warm w h := x.elim (·.warm N) (·.keep F.keep)

theorem idm_L {w : World} {p : Program} {loose : List Str} {mean : ExcName → Option Value} {mg mb : Str → Option Value} {g₀ g : Heap} (G : Gd w p loose mean mg mb g₀)
   {a b : Int} {ta tb : Tok} (ha0 : 0 ≤ a) (ha1 : a < 2 ^ 40) (hb0 : 0 < b) (hb1 : b < 2 ^ 20)
   {dp un : Nat} {fr : Option (List Env)} {gd : Option (List Code)} {s : Shared} {Q E : Value → Shared → Prop} {L : Addr} {m : Str → Option Value} {pre imm : List (Addr × Obj)} (sg : Sub g₀ g)
   (F : Fr g L s.heap m) (N : News g L s.heap (pre ++ imm)) (hst : (a = 0 ∧ imm = coldl) ∨ Wst w g imm) (hpre : imm = coldl → ∀ p ∈ pre, p.1 ≠ 37 ∧ p.1 ≠ 44)
   (hdp : dp + 210 < recursionLimit) (hun : un + 1110 < cLine)
   (hret : ∀ D t1 t2 c imm' h' tk', Fr g L h' m → News g L h' (pre ++ imm') → Wst w g imm' → ((a = 0 ∧ imm = coldl) ∨ ∀ p ∈ imm, p ∈ imm') → (∀ p ∈ imm', (∃ q ∈ imm, q.1 = p.1) ∨ s.heap.objs.size ≤ p.1) → (D, tupO [.int (a / b) t1, .int (a % b) t2] c) ∈ imm' → s.heap.objs.size ≤ D → Q (.ref D) { s with heap := h', toks := tk' }) :
   wpAny (model PySem.Challenge.rw_ph0093_01.row.prog w) (AA dp un fr gd) (call (.ref 63) [.int a ta, .int b tb]) Q E s := by
  have fresh : ∀ {D : Addr}, s.heap.objs.size ≤ D → D ≠ L ∧ g.get? D = none := fun {D} hD => by
    have hLD : L < D := Nat.lt_of_lt_of_le F.ns.lt hD
    exact ⟨Nat.ne_of_gt hLD, Heap.get?_none_of_le (Nat.le_trans F.above (Nat.le_of_lt hLD))⟩
  rcases hst with ⟨rfl, rfl⟩ | hst
  · have n37 := N (37, tabObj #[]) (List.mem_append_right _ (.head _))
    have n44 := N (44, tabObj #[]) (List.mem_append_right _ (.tail _ (.head _)))
    refine idm_C G hb0 hb1 (fun b o e => F.keep b o (sg b o e)) n37.1 n44.1 hdp hun ?_
    intro D t1 t2 c h' tk' c1 c2 oc1 oc2 kb hw hD hDg
    have F2 := fr_kb F kb (by simp only [List.mem_cons, List.not_mem_nil, or_false, not_or]; exact ⟨Ne.symm n37.2.1, Ne.symm n44.2.1⟩) (by
      simp only [List.forall_mem_cons, List.not_mem_nil, false_imp_iff, implies_true, and_true]; exact ⟨n37.2.2, n44.2.2⟩)
    refine hret D t1 t2 c [(D, tupO [.int 0 t1, .int 0 t2] c), (37, _), (44, _), (c1, oc1), (c2, oc2)] h' tk' F2 ?_ (.inl ⟨c1, c2, oc1, oc2, .tail _ (.head _), .tail _ (.tail _ (.head _)), .tail _ (.tail _ (.tail _ (.head _))), .tail _ (.tail _ (.tail _ (.tail _ (.head _)))), hw.r1, hw.r2⟩) ?_ ?_ ?_ hD
    · intro p hp
      rcases List.mem_append.mp hp with hp | hp
      · have q := N p (List.mem_append_left _ hp)
        have := hpre rfl p hp
        exact ⟨kb _ _ (by simp only [List.mem_cons, List.not_mem_nil, or_false, not_or]; exact this) q.1, q.2⟩
      · simp only [List.mem_cons, List.not_mem_nil, or_false] at hp
        rcases hp with rfl | rfl | rfl | rfl | rfl
        · exact ⟨hDg, fresh hD⟩
        · exact ⟨hw.t1, n37.2⟩
        · exact ⟨hw.t2, n44.2⟩
        · exact ⟨hw.g1, fresh hw.f1⟩
        · exact ⟨hw.g2, fresh hw.f2⟩
    · exact .inl ⟨rfl, rfl⟩
    · intro p hp
      simp only [List.mem_cons, List.not_mem_nil, or_false] at hp
      rcases hp with rfl | rfl | rfl | rfl | rfl
      · exact .inr hD
      · exact .inl ⟨_, .head _, rfl⟩
      · exact .inl ⟨_, .tail _ (.head _), rfl⟩
      · exact .inr hw.f1
      · exact .inr hw.f2
    · rw [Int.zero_ediv, Int.zero_emod]; exact .head _
  · refine idm_W G ha0 ha1 hb0 hb1 (fun b o e => F.keep b o (sg b o e)) (hst.warm F fun p hp => N p (List.mem_append_right _ hp)) hdp hun ?_
    intro D t1 t2 c h' tk' kb hD hDg
    have F2 := fr_kb (ex := []) F (fun b o _ e => kb b o e) List.not_mem_nil (fun _ h => nomatch h)
    refine hret D t1 t2 c ((D, tupO [.int (a / b) t1, .int (a % b) t2] c) :: imm) h' tk' F2 ?_ (hst.sub fun p hp => .tail _ hp) (.inr fun p hp => .tail _ hp) ?_ (.head _) hD
    · intro p hp
      rcases List.mem_append.mp hp with hp | hp
      · have q := N p (List.mem_append_left _ hp)
        exact ⟨kb _ _ q.1, q.2⟩
      · rcases List.mem_cons.mp hp with rfl | hp
        · exact ⟨hDg, fresh hD⟩
        · have q := N p (List.mem_append_right _ hp)
          exact ⟨kb _ _ q.1, q.2⟩
    · intro p hp
      rcases List.mem_cons.mp hp with rfl | hp
      · exact .inr hD
      · exact .inl ⟨p, hp, rfl⟩
theorem codeRec_tab {h g : Heap} {P c : Addr} {ps : Array Value} {q : Str} (cr : h.CodeRec (.ref c) q) (k : KB [P] h g) (e : h.get? P = some (tabObj ps)) (hp : ∀ s t, ps[1]? ≠ some (.str s t)) : g.CodeRec (.ref c) q := by
  obtain ⟨c', oc, vs, t, e', ho, hd, hv⟩ := cr
  cases e'
  refine ⟨c, oc, vs, t, rfl, k _ _ (fun q => ?_) ho, hd, hv⟩
  rw [List.mem_singleton.mp q, e] at ho
  cases ho
  cases hd
  exact hp _ _ hv
theorem Warm.tab {w : World} {h g : Heap} {P : Addr} {ps : Array Value} (t : Warm w h) (k : KB [P] h g) (e : h.get? P = some (tabObj ps)) (hp : ∀ s t, ps[1]? ≠ some (.str s t)) (h1 : P ≠ 37) (h2 : P ≠ 44) : Warm w g := by
  obtain ⟨⟨c1, a1, b1⟩, ⟨c2, a2, b2⟩⟩ := t
  exact ⟨⟨c1, k _ _ (by simpa using Ne.symm h1) a1, codeRec_tab b1 k e hp⟩, ⟨c2, k _ _ (by simpa using Ne.symm h2) a2, codeRec_tab b2 k e hp⟩⟩
/-- the lambda's table -/
def LamTab (w : World) (h : Heap) (ps : Array Value) : Prop := ps = #[] ∨ ∃ c, ps = #[rawInt (lamLit w.params).1.pos.line, rawInt (lamLit w.params).1.pos.col, .ref c] ∧ h.CodeRec (.ref c) lamQ
theorem LamTab.nostr {w : World} {h : Heap} {ps : Array Value} (x : LamTab w h ps) : ∀ s t, ps[1]? ≠ some (.str s t) := by
  intro s t
  rcases x with rfl | ⟨c, rfl, _⟩
  · simp
  · simp [rawInt]
theorem range_src {n : Nat} (h : n < 1000) : Builtin.Range.small 0 (n : Int) 1 = true ∧ Builtin.Range.rangeSize 0 (n : Int) 1 = ((n : Nat) : Int) ∧ n ≤ sizeLine := by
  refine ⟨small_one (by omega) (by omega) (by omega) (by omega), ?_, by rw [sizeLine_eq]; omega⟩
  rw [rangeSize_one]
  split <;> omega
end
section -- B5
set_option maxHeartbeats 1000000
/-- the end of a turn of a for with any target -/
def TurnW (St : Heap → Prop) (Inv : Shared → Prop) (Q : Flow → Shared → Prop) (f : Flow) (s₃ : Shared) : Prop := match f with
  | .next => St s₃.heap ∧ Inv s₃
  | .ret v => Q (.ret v) s₃
  | _ => False
def LoopW (prog : Program) (w : World) (A : Around) (env : Env) (target : Expr) (body : List Stmt) (Q : Flow → Shared → Prop) (E : Value → Shared → Prop) (it : Value) (s₂ : Shared) : Prop :=
  ∃ (I : Addr) (fp : List Addr) (n : Nat) (P : Nat → Value → Prop) (St : Nat → Heap → Prop) (Inv : Nat → Shared → Prop), it = .ref I ∧ Walks prog w A I fp [I] n P St ∧ St 0 s₂.heap ∧ Inv 0 s₂ ∧
    (∀ i s, i < n → St i s.heap → Inv i s → ∀ v h' tk, P i v → St (i + 1) h' → (∀ b o, b ∉ [I] → s.heap.get? b = some o → h'.get? b = some o) →
      wpAny (model prog w) A (assign target env v) (fun _ s₃ => wpAny (model prog w) A (execs body env) (TurnW (St (i + 1)) (Inv (i + 1)) Q) E s₃) E { s with heap := h', toks := tk }) ∧
    ∀ s, St n s.heap → Inv n s → ∀ h' tk, (∀ b o, b ∉ [I] → s.heap.get? b = some o → h'.get? b = some o) → Q .next { s with heap := h', toks := tk }
theorem For_any {prog : Program} {w : World} {A : Around} {s : Shared} {env : Env} {E : Value → Shared → Prop} {Q : Flow → Shared → Prop} {target iter : Expr} {pos : Pos} {body : List Stmt}
    (h : wpAny (model prog w) A (eval iter env) (fun xv s₁ => wpAny (model prog w) A (pyIter xv) (fun it s₂ => LoopW prog w A env target body Q E it s₂) E s₁) E s)
    (ht : ∀ it v, letOwnedTupleGo target it v = pure () := by intro _ _; rfl) (hs : ∀ x, foldedSetIterable iter env x = pure x := by intro _; rfl)
    (hE : PassesOwn (model prog w) A env E := by passes_own) :
    wpAny (model prog w) A (exec (.For target iter body [] pos) env) Q E s := by
  refine wpAny_For (wpAny_mono h (fun xv s₁ h₁ => wpAny_mono h₁ (fun it s₂ h₂ => ?_) fun _ _ e => e) fun _ _ e => e) hs
  obtain ⟨I, fp, n, P, St, Inv, rfl, W, hst, hinv, turn, done⟩ := h₂
  refine codeAny_forLoop (R := fun r s' => match r with | .ok f => Q f s' | .error e => cameBackBy (model prog w) A env E e s') (fun k s' => ∃ i, i ≤ n ∧ k = n + 1 - i ∧ St i s'.heap ∧ Inv i s') ?_ (n + 1) ⟨0, Nat.zero_le _, rfl, hst, hinv⟩ (ht _)
  rintro k s' ⟨i, hi, rfl, hst', hI⟩
  by_cases hlt : i < n
  · refine W.item i _ _ _ hlt hst' fun v h₁ tk₁ hP hst₁ hk₁ => ?_
    refine wpAny_passesOwn hE (wpAny_mono (turn i s' hlt hst' hI v h₁ tk₁ hP hst₁ hk₁) (fun _ s₃ h₃ => ?_) fun _ _ e => e)
    refine wpAny_passesOwn hE (wpAny_mono h₃ (fun f s₄ h₄ => ?_) fun _ _ e => e)
    cases f with
    | next => exact ⟨n + 1 - (i + 1), by omega, i + 1, hlt, rfl, h₄.1, h₄.2⟩
    | ret v => exact h₄
    | brk => exact h₄.elim
    | cont => exact h₄.elim
  · have hin : i = n := by omega
    subst hin
    refine W.done _ _ _ hst' fun h₁ tk₁ hk₁ => wpAny_execs_nil ?_
    exact done s' hst' hI h₁ tk₁ hk₁
/-- the end of a turn over a range: the frame, the iterator, the rest; or a return -/
def TurnR (h₀ : Heap) (L : Addr) (s : Shared) (I : Addr) (it : Obj) (J : (Str → Option Value) → List (Addr × Obj) → Prop) (Q : Flow → Shared → Prop) (f : Flow) (s₂ : Shared) : Prop := match f with
  | .next => ∃ h' tk' m' news', s₂ = { s with heap := h', toks := tk' } ∧ Fr h₀ L h' m' ∧ News h₀ L h' ((I, it) :: news') ∧ J m' news'
  | .ret v => Q (.ret v) s₂
  | _ => False
theorem iter_rangeW {prog : Program} {w : World} {A : Around} {s : Shared} {env : Env} {E : Value → Shared → Prop} {Q : Flow → Shared → Prop} {target : Expr} {body : List Stmt} {h₀ : Heap} {L r : Addr} {a b : Int} {t u v : Tok} {n : Nat} {m₀ : Str → Option Value} {news : List (Addr × Obj)}
    (J : Nat → (Str → Option Value) → List (Addr × Obj) → Prop) (hh : A.handled = none) (hr : IsRange s.heap r a b 1 t u v) (hsm : Builtin.Range.small a b 1 = true) (hn : Builtin.Range.rangeSize a b 1 = ((n : Nat) : Int))
    (F : Fr h₀ L s.heap m₀) (N : News h₀ L s.heap news) (hJ0 : J 0 m₀ news) (hJo : ∀ i m nw, J i m nw → ∀ p ∈ nw, p.1 ≠ s.heap.objs.size)
    (turn : ∀ i m₁ nw it h tk t, i < n → J i m₁ nw → Fr h₀ L h m₁ → News h₀ L h ((s.heap.objs.size, it) :: nw) → (∃ x y z : Int, it.data = .fields #[rawInt x, rawInt y, rawInt z]) →
      wpAny (model prog w) A (assign target env (.int (a + (i : Int)) t)) (fun _ s₃ => wpAny (model prog w) A (execs body env) (TurnR h₀ L s s.heap.objs.size it (J (i + 1)) Q) E s₃) E { s with heap := h, toks := tk })
    (done : ∀ m' nw h' tk', J n m' nw → Fr h₀ L h' m' → News h₀ L h' nw → Q .next { s with heap := h', toks := tk' }) :
    wpAny (model prog w) A (pyIter (.ref r)) (fun it s₂ => LoopW prog w A env target body Q E it s₂) E s := by
  have nI := next_is_new F
  have hIL : L ≠ s.heap.objs.size := Nat.ne_of_lt F.ns.lt
  have next : ∀ {h h' : Heap} {m : Str → Option Value} {nw : List (Addr × Obj)}, (∀ p ∈ nw, p.1 ≠ s.heap.objs.size) → Fr h₀ L h m → News h₀ L h nw → (∀ b o, b ∉ [s.heap.objs.size] → h.get? b = some o → h'.get? b = some o) → Fr h₀ L h' m ∧ News h₀ L h' nw := fun off F N k =>
    ⟨⟨F.ns.at' fun o e => k _ o (by simpa using hIL) e, fun b o e => k b o (fun q => by rw [List.mem_singleton.mp q, nI] at e; cases e) (F.keep b o e), F.above⟩, fun p hp => ⟨k _ _ (by simpa using off p hp) (N p hp).1, (N p hp).2⟩⟩
  refine wpAny_pyIter_range hr hsm ?_
  refine ⟨s.heap.objs.size, [s.heap.objs.size], n, _, _, fun i s' => ∃ h tk m nw, s' = { s with heap := h, toks := tk } ∧ Fr h₀ L h m ∧ News h₀ L h nw ∧ J i m nw, rfl, LCg.range_walks hh a n, ?_, ⟨_, _, m₀, news, rfl, F.push _, fun p hp => ⟨Heap.get?_push_of_some _ (N p hp).1, (N p hp).2⟩, hJ0⟩, ?_, ?_⟩
  · show IsRangeIter _ _ _ _ _; rw [hn]; simpa using Heap.get?_push_size _ rfl
  · rintro i s' hi hst ⟨h, tk, m, nw, rfl, F₁, N₁, hJ⟩ v h' tk' ⟨t, rfl⟩ hst' hk
    obtain ⟨F₂, N₂⟩ := next (hJo _ _ _ hJ) F₁ N₁ hk
    have e9 : h'.get? s.heap.objs.size = some _ := hst'
    have N₃ : News h₀ L h' ((s.heap.objs.size, _) :: nw) := fun p hp => by
      rcases List.mem_cons.mp hp with rfl | hp
      · exact ⟨e9, Ne.symm hIL, nI⟩
      · exact N₂ p hp
    refine wpAny_mono (turn i m nw _ h' tk' t hi hJ F₂ N₃ ⟨_, _, _, rfl⟩) (fun _ s₃ h₃ => wpAny_mono h₃ (fun f s₄ h₄ => ?_) fun _ _ e => e) fun _ _ e => e
    cases f with
    | next =>
      obtain ⟨h5, tk5, m5, nw5, rfl, F5, N5, hJ5⟩ := h₄
      exact ⟨(N5 _ (.head _)).1, h5, tk5, m5, nw5, rfl, F5, fun p hp => N5 p (.tail _ hp), hJ5⟩
    | ret v => exact h₄
    | brk => exact h₄.elim
    | cont => exact h₄.elim
  · rintro s' hst ⟨h, tk, m, nw, rfl, F₁, N₁, hJ⟩ h' tk' hk
    obtain ⟨F₂, N₂⟩ := next (hJo _ _ _ hJ) F₁ N₁ hk
    exact done m nw h' tk' hJ F₂ N₂
end
section -- C1
set_option maxHeartbeats 1000000
theorem mem_mid {α : Type} {x p : α} {pre l : List α} (h : p ∈ pre ++ x :: l) : p ∈ x :: (pre ++ l) := by
  rcases List.mem_append.mp h with h | h
  · exact .tail _ (List.mem_append_left _ h)
  · rcases List.mem_cons.mp h with rfl | h
    · exact .head _
    · exact .tail _ (List.mem_append_right _ h)
theorem mem_or {α : Type} {p : α} {s t : List α} (h : p ∈ s ++ t) : p ∈ s ∨ p ∈ t := List.mem_append.mp h
theorem mem_ins {α : Type} {x p : α} {pre l : List α} (h : p ∈ pre ++ l) : p ∈ pre ++ x :: l := by
  rcases List.mem_append.mp h with h | h
  · exact List.mem_append_left _ h
  · exact List.mem_append_right _ (.tail _ h)
theorem lst_eq {ys : List Value} {n : Nat} (h : ys.length = n) : LCg.lst ys = listOf ys.toArray n := by subst h; rfl
open LCg
section
variable {prog : Program} {w : World} {A : Around} {E : Value → Shared → Prop} {s : Shared} {h₀ : Heap} {L : Addr} {m : Str → Option Value} {env : Env}
def SrcTup (prog : Program) (w : World) (A : Around) (h₀ : Heap) (L : Addr) (m : Str → Option Value) (env : Env) (elt : Expr) (x : Str) (scope : Scope) (cl : List (Str × Addr)) (Fin : Shared → List Value → List (Addr × Obj) → Prop) (xv : Value) (s₁ : Shared) : Prop :=
  ∃ ax its news, xv = .ref ax ∧ A.handled = none ∧ Fr h₀ L s₁.heap m ∧ News h₀ L s₁.heap news ∧ (∃ c, (ax, tupO its c) ∈ news) ∧ its.length ≤ sizeLine ∧
      ∀ g, CompRest prog w A h₀ L m env elt x scope cl { s₁ with heap := g } (fun nw => ∃ c, (ax, tupO its c) ∈ nw) (fun i v => its.toArray[i]? = some v) (Fin { s₁ with heap := g }) its.length 0 [] news
/-- a comprehension over a tuple of the ledger -/
theorem ListComp_T {elt iter : Expr} {x : Str} {px : Pos} {scope : Scope} {cl : List (Str × Addr)} {pos : Pos} {Q : Value → Shared → Prop} (F₀ : Fr h₀ L s.heap m)
    (hclos : closureFor scope env = pure cl) (hcell : ∀ y ∈ scope.names, y.2 ≠ .cell) (hkind : scope.kind = .function)
    (hnames : ∀ y ∈ scope.names, y.2 = .local → scope.names.lookup y.1 = some .local) (hx : scope.names.lookup x = some .local)
    (h : wpAny (model prog w) A (eval iter env) (SrcTup prog w A h₀ L m env elt x scope cl (fun s₂ => FinE h₀ L m s₂ Q)) E s)
    (hs : ∀ x, foldedSetIterable iter env x = pure x := by intro _; rfl) :
    wpAny (model prog w) A (eval (.ListComp elt [⟨.Name x px, iter, [], 0⟩] scope pos) env) Q E s := by
  rw [eval_ListComp]
  refine wpAny_comprehension_free (use := none) rfl hs hclos hkind hnames (wpAny_mono h (fun xv s₁ h₁ => ?_) fun _ _ e => e)
  obtain ⟨ax, its, news, rfl, hh, F, N, S, hsz, R⟩ := h₁
  obtain ⟨c, hm⟩ := id S
  have hl : s₁.heap.IsTuple ax its.toArray := ⟨_, (N _ hm).1, rfl, _, rfl⟩
  have hlt : ax < s₁.heap.objs.size := by obtain ⟨_, e, _⟩ := hl; exact Heap.lt_size e
  refine wpAny_pyIter_tuple hl ?_
  have up : ∀ b o, s₁.heap.get? b = some o → (s₁.heap.push { cls := .type "tuple_iterator", data := .fields #[.ref ax, .int 0 0] }).get? b = some o := fun b o e => Heap.get?_push_of_some _ e
  have W := Walks.tuple (prog := prog) (w := w) hh s₁.heap.objs.size ax (Nat.ne_of_lt hlt) its.toArray
  rw [show its.toArray.size = its.length by simp] at W
  refine block_U (S := fun nw => ∃ c, (ax, tupO its c) ∈ nw) (news := news) W hsz (fun i h st => by obtain ⟨o, e, _⟩ := st.1; exact ⟨o, e⟩)
    (fun i h h' o nw st e e' k N S => ⟨by obtain ⟨o', q, r⟩ := st.1; rw [e] at q; cases q; exact ⟨o, e', r⟩, by obtain ⟨c, hc⟩ := S; exact ⟨_, (N _ hc).1, rfl, _, rfl⟩⟩)
    hcell hkind hx ⟨⟨_, Heap.get?_push_size _ rfl, rfl, rfl⟩, hl.push _⟩ (fun b hb => ?_)
    (F.keeps up) (N.grown up) (Nat.ne_of_lt F.ns.lt) (next_is_new F) (fun p hp => Nat.ne_of_lt (Heap.lt_size (N p hp).1)) S (R _) ?_
  · show b < (s₁.heap.push _).objs.size
    rw [Heap.size_push]
    rcases List.mem_cons.mp hb with rfl | hb
    · exact Nat.lt_succ_self _
    · rw [List.mem_singleton.mp hb]; exact Nat.lt_succ_of_lt hlt
  · intro D C h tk m' ys news' F' N' o1 hn hC₀ hD₀ hCL hDL hCD offC fin
    refine ⟨m', hn, fun h'' hs'' => fin D h'' tk (F'.change hs'' hCL hC₀) (fun p hp => ?_) o1⟩
    refine ⟨hs''.extBut _ _ ?_ (N' p hp).1, (N' p hp).2⟩
    rcases List.mem_cons.mp hp with rfl | hp
    · exact Ne.symm hCD
    · exact offC p hp
theorem add_L {a b : Addr} {xs ys : List Value} {e1 e2 : Nat} {news : List (Addr × Obj)} {Q : Value → Shared → Prop} (F : Fr h₀ L s.heap m) (N : News h₀ L s.heap news) (ha : (a, listOf xs.toArray e1) ∈ news) (hb : (b, listOf ys.toArray e2) ∈ news) (hz : xs.length + ys.length ≤ 1000)
    (h : ∀ D h', Fr h₀ L h' m → News h₀ L h' ((D, listOf (xs ++ ys).toArray 0) :: news) → (∀ p ∈ news, p.1 < D) → @LT.lt Nat _ L D → Q (.ref D) { s with heap := h' }) : wpAny (model prog w) A (binaryOp .Add (.ref a) (.ref b)) Q E s :=
  add_lists F N ⟨_, (N _ ha).1, rfl, _, rfl⟩ ⟨_, (N _ hb).1, rfl, _, rfl⟩ (fun h' F' N' => h _ h' F' N' (fun p hp => Heap.lt_size (N p hp).1) F.ns.lt) (by rw [sizeLine_eq]; omega)
end
end
section -- D2
set_option maxHeartbeats 1000000
def dealSt (its : List It) : Nat → List It × List It
  | 0 => ([], its)
  | i + 1 => ((dealSt its i).1 ++ (dealSt its i).2.filter (fun x => x.r == (i : Int)), (dealSt its i).2.filter (fun x => !(x.r == (i : Int))))
theorem dealSt_len (its : List It) : ∀ i, (dealSt its i).1.length + (dealSt its i).2.length = its.length
  | 0 => by simp [dealSt]
  | i + 1 => by
    have h := dealSt_len its i
    have e : ∀ l : List It, (l.filter fun x => x.r == (i : Int)).length + (l.filter fun x => !(x.r == (i : Int))).length = l.length := fun l => by
      induction l with
      | nil => rfl
      | cons a l ih => by_cases q : a.r = (i : Int) <;> simp [q] <;> omega
    have := e (dealSt its i).2
    simp only [dealSt, List.length_append]
    omega
def LamN (l : List (Addr × Obj)) (c : Addr) : Prop := ∃ oc vs t, (c, oc) ∈ l ∧ oc.data = .fields vs ∧ vs[1]? = some (.str lamQ t)
/-- a code object of the lambda, in the ledger or below -/
def LamC (g : Heap) (l : List (Addr × Obj)) (c : Addr) : Prop := LamN l c ∨ g.CodeRec (.ref c) lamQ
abbrev lamPs (w : World) (c : Addr) : Array Value := #[rawInt (lamLit w.params).1.pos.line, rawInt (lamLit w.params).1.pos.col, .ref c]
def LamSt (w : World) (g : Heap) (l : List (Addr × Obj)) (ps : Array Value) : Prop := ps = #[] ∨ ∃ c, ps = lamPs w c ∧ LamC g l c
theorem LamC.sub {g : Heap} {l l' : List (Addr × Obj)} {c : Addr} (x : LamC g l c) (hs : ∀ p ∈ l, p ∈ l') : LamC g l' c := x.imp (fun ⟨oc, vs, t, a, b⟩ => ⟨oc, vs, t, hs _ a, b⟩) id
theorem LamC.code {g h : Heap} {L : Addr} {m : Str → Option Value} {l : List (Addr × Obj)} {c : Addr} (x : LamC g l c) (F : Fr g L h m) (N : News g L h l) : h.CodeRec (.ref c) lamQ := by
  rcases x with ⟨oc, vs, t, a, d, e⟩ | x
  · exact ⟨c, oc, vs, t, rfl, (N _ a).1, d, e⟩
  · exact x.keeps F.keep
theorem updF_app {d : Addr} {o : Obj} {post : List (Addr × Obj)} (h2 : ∀ p ∈ post, p.1 ≠ d) : ∀ (pre : List (Addr × Obj)), (∀ p ∈ pre, p.1 ≠ d) → UpdF d o (pre ++ (d, o) :: post) (fun o' => pre ++ (d, o') :: post)
  | [], _ => .head h2
  | p :: r, h1 => .tail (h1 p (.head _)) (updF_app h2 r fun q hq => h1 q (.tail _ hq))
theorem chain2 {m : Str → Option Value} {k1 k2 : Str} {v1 v2 : Option Value} (h1 : m k1 = v1) (h2 : m k2 = v2) : m = fun y => if y = k1 then v1 else if y = k2 then v2 else m y := by
  funext y
  by_cases e1 : y = k1
  · rw [if_pos e1, e1, h1]
  rw [if_neg e1]
  by_cases e2 : y = k2
  · rw [if_pos e2, e2, h2]
  rw [if_neg e2]
theorem news_sub {g h : Heap} {L : Addr} {l l' : List (Addr × Obj)} (N : News g L h l) (hs : ∀ p ∈ l', p ∈ l) : News g L h l' := fun p hp => N p (hs p hp)
theorem lam_make {M : Model} {A : Around} {w : World} {p : Program} {loose : List Str} {mean : ExcName → Option Value} {mg mb : Str → Option Value} {g₀ g : Heap} (G : Gd w p loose mean mg mb g₀) (sg : Sub g₀ g)
   {cs : Scope} {L a : Addr} {cl : List (Str × Addr)} {cp : Addr} {s : Shared} {Q E : Value → Shared → Prop} {m : Str → Option Value} {pre imm : List (Addr × Obj)} {ps : Array Value}
   (F : Fr g L s.heap m) (N : News g L s.heap (pre ++ (65, tabObj ps) :: imm)) (hst : LamSt w g imm ps) (h1 : ∀ p ∈ pre, p.1 ≠ 65) (h2 : ∀ p ∈ imm, p.1 ≠ 65)
   (hcl : closureFor (lamLit w.params).1.scope (envX (Str.ofString "_law_dealt") cs L a (.ref 67) cl) = pure [(Str.ofString "pile", cp)])
   (hret : ∀ f c' ctv imm' h' tk', Fr g L h' m → News g L h' ((f, lamFn w.params cp ((mg "__name__").getD .none) c' ctv) :: (pre ++ (65, tabObj (lamPs w c')) :: imm')) → LamC g imm' c' → ((ps = #[] ∧ LamN imm' c') ∨ ps = lamPs w c') → (∀ p ∈ imm, p ∈ imm') → (∀ p ∈ imm', p ∈ imm ∨ ∀ q ∈ pre ++ (65, tabObj ps) :: imm, @LT.lt Nat _ q.1 p.1) → (∀ q ∈ pre ++ (65, tabObj ps) :: imm, @LT.lt Nat _ q.1 f) → (∀ p ∈ imm', @LT.lt Nat _ p.1 f) → Q (.ref f) { s with heap := h', toks := tk' }) :
   wpAny M A (eval (.Lambda (lamLit w.params).1.params (lamLit w.params).1.body (lamLit w.params).1.scope (lamLit w.params).1.pos) (envX (Str.ofString "_law_dealt") cs L a (.ref 67) cl)) Q E s := by
  have T := G.T.keeps sg
  have C := G.c3.keeps sg
  refine kla_eval rfl ?_
  rcases hst with rfl | ⟨c, rfl, hc⟩
  · refine kla_nest F N T C rfl (updF_app h2 pre h1) True.intro rfl hcl ?_
    intro f c' oc vs t ctv h' tk' F' N' d1 d2 l1 l2
    have l1' : ∀ q ∈ pre ++ (65, tabObj #[]) :: imm, @LT.lt Nat _ q.1 c' := l1
    have l3 : ∀ q ∈ pre ++ (65, tabObj #[]) :: imm, @LT.lt Nat _ q.1 f := fun q hq => Nat.lt_trans (l1' q hq) l2
    refine hret f c' ctv ((c', oc) :: imm) h' tk' F' (news_sub N' ?_) (.inl ⟨oc, vs, t, .head _, d1, d2⟩) (.inl ⟨rfl, oc, vs, t, .head _, d1, d2⟩) (fun _ h => .tail _ h) ?_ l3 ?_
    · intro p hp
      rcases List.mem_cons.mp hp with rfl | hp
      · exact .head _
      · rcases List.mem_append.mp hp with hp | hp
        · exact .tail _ (.tail _ (List.mem_append_left _ hp))
        · rcases List.mem_cons.mp hp with rfl | hp
          · exact .tail _ (.tail _ (List.mem_append_right _ (.head _)))
          · rcases List.mem_cons.mp hp with rfl | hp
            · exact .tail _ (.head _)
            · exact .tail _ (.tail _ (List.mem_append_right _ (.tail _ hp)))
    · intro p hp
      rcases List.mem_cons.mp hp with rfl | hp
      · exact .inr l1'
      · exact .inl hp
    · intro p hp
      rcases List.mem_cons.mp hp with rfl | hp
      · exact l2
      · exact l3 p (List.mem_append_right _ (.tail _ hp))
  · refine kla_hit (c' := c) F N T C rfl (List.mem_append_right _ (.head _)) ?_ ?_ hcl ?_
    · simp [TriplesOk, rawInt]
    · simp [codeAmong, rawInt]
    · intro f ctv h' tk' F' N' l1
      exact hret f c ctv imm h' tk' F' N' hc (.inr rfl) (fun _ h => h) (fun _ h => .inl h) l1 (fun p hp => l1 p (List.mem_append_right _ (.tail _ hp)))
structure DLit where
  scope : Scope
  tgt : Expr
  iter : Expr
  fpos : Pos
  body : List Stmt
  s1 : Stmt
  s2 : Stmt
  rest : List Stmt
def dealtLit (P : Params) : { q : DLit // ∃ oc od name qual params dV kV doc pm an cdv ct osl, (hd.heap_39 P).lookup 68 = some ⟨oc, od, .func (fnOf name qual params (q.s1 :: q.s2 :: .For q.tgt q.iter q.body [] q.fpos :: q.rest) q.scope dV kV doc pm an cdv ct), osl⟩ } := 
  ⟨⟨_, _, _, _, _, _, _, _⟩, _, _, _, _, _, _, _, _, _, _, _, _, _, rfl⟩
abbrev dEnv (P : Params) (L : Addr) : Env := envOfC (Str.ofString "_law_dealt") (dealtLit P).1.scope L 68 (.ref 67)
local macro_rules | `(tactic| k_all) => `(tactic| assumption)
local macro_rules | `(tactic| walk_at "eval ListComp") => `(tactic| (k_here; k_dflt (refine' ListComp_T ?F ?cl ?ce ?ki ?na ?hx ?_; (case F => k_asm); (case cl => with_unfolding_all exact rfl); (case ce => decide); (case ki => exact rfl); (case na => decide); (case hx => exact rfl))))
local macro_rules | `(tactic| walk_at "binaryOp Add ref ref") => `(tactic| (k_here; k_dflt (refine' add_L ?F ?N ?a ?b ?z ?_; (case F => k_asm); (case N => k_asm); (case a => k_mem); (case b => k_mem); (case z => omega)); intro D' h' F' N' l1 lL; (k_lt l1)))
theorem dealt_turn {w : World} {p : Program} {loose : List Str} {mean : ExcName → Option Value} {mg mb : Str → Option Value} {g₀ g : Heap} (G : Gd w p loose mean mg mb g₀) (sg : Sub g₀ g)
   {L' : Addr} {its : List It} {i : Nat} {ti : Tok} {I : Addr} {it : Obj} {dA lA : Addr} {e1 e2 : Nat} {oP o2 o3 : Obj} {ps' : Array Value} {imm : List (Addr × Obj)} {v0 : Option Value} {m₁ : Str → Option Value}
   {dp un : Nat} {fr : Option (List Env)} {gd : Option (List Code)} {s : Shared} {E : Value → Shared → Prop} {Q : Flow → Shared → Prop}
   (hi : i < 10) (hlen : its.length ≤ 20) (h65 : @LT.lt Nat _ 65 L') (F2 : Fr g L' s.heap m₁)
   (N2 : News g L' s.heap ((I, it) :: (dA, listOf ((dealSt its i).1.map It.v).toArray e1) :: (lA, listOf ((dealSt its i).2.map It.v).toArray e2) :: (L' + 1 + 1 + 1, oP) :: (L' + 1 + 1, o2) :: (L' + 1, o3) :: (65, tabObj ps') :: imm))
   (hoP : oP.data = .cell v0) (hmd : m₁ (Str.ofString "dealt") = some (.ref dA)) (hml : m₁ (Str.ofString "left") = some (.ref lA)) (hlam : LamSt w g imm ps') (hsp : SpotsL imm (dealSt its i).2)
   (hn3 : ∀ p ∈ imm, p.1 ≠ L' + 1 + 1 + 1) (hn65 : ∀ p ∈ imm, p.1 ≠ 65) (hdA : @LT.lt Nat _ (L' + 1 + 1 + 1) dA) (hlA : @Ne Nat lA (L' + 1 + 1 + 1)) (hlA5 : @Ne Nat lA 65) (hI : @LT.lt Nat _ (L' + 1 + 1 + 1) I)
   (hdI : @Ne Nat dA I) (hlI : @Ne Nat lA I) (hiI : ∀ p ∈ imm, p.1 ≠ I)
   (hdp : dp + 280 < recursionLimit) (hun : un + 1400 < cLine)
   (hret : ∀ dA' lA' e1' e2' oP' ps'' imm' m' h' tk', Fr g L' h' m' → News g L' h' ((I, it) :: (dA', listOf ((dealSt its (i + 1)).1.map It.v).toArray e1') :: (lA', listOf ((dealSt its (i + 1)).2.map It.v).toArray e2') :: (L' + 1 + 1 + 1, oP') :: (L' + 1 + 1, o2) :: (L' + 1, o3) :: (65, tabObj ps'') :: imm') →
      (∃ v0, oP'.data = .cell v0) → m' (Str.ofString "dealt") = some (.ref dA') → m' (Str.ofString "left") = some (.ref lA') → (∃ c, ps'' = lamPs w c ∧ LamC g imm' c ∧ ((ps' = #[] ∧ LamN imm' c) ∨ ps' = lamPs w c)) → (∀ p ∈ imm, p ∈ imm') → (∀ p ∈ imm', p ∈ imm ∨ @LT.lt Nat _ (L' + 1 + 1 + 1) p.1) →
      (∀ p ∈ imm', p.1 ≠ L' + 1 + 1 + 1) → (∀ p ∈ imm', p.1 ≠ 65) → (∀ p ∈ imm', p.1 ≠ I) → @LT.lt Nat _ (L' + 1 + 1 + 1) dA' → @LT.lt Nat _ (L' + 1 + 1 + 1) lA' → @Ne Nat dA' I → @Ne Nat lA' I → Q .next { s with heap := h', toks := tk' }) :
   wpAny (model PySem.Challenge.rw_ph0093_01.row.prog w) ((AA dp un fr gd).deeper (dEnv w.params L')) (assign (dealtLit w.params).1.tgt (dEnv w.params L') (.int (0 + (i : Int)) ti)) (fun _ s₃ =>
     wpAny (model PySem.Challenge.rw_ph0093_01.row.prog w) ((AA dp un fr gd).deeper (dEnv w.params L')) (execs (dealtLit w.params).1.body (dEnv w.params L')) Q E s₃) E s := by
  have X := G.X
  have T := G.T
  revert X; k_fill; intro X
  have X' := X.keeps sg
  have T' := T.keeps sg
  have c3' := G.c3.keeps sg
  rw [chain2 hmd hml] at F2
  dsimp only [dEnv, dealtLit]
  change Fr g L' s.heap _ at F2
  (try k_fold)
  k_steps
  rename Fr _ _ _ _ => F3
  rename News _ _ _ _ => N3
  rename_i h3 oP3 hoP3
  refine lam_make G sg (pre := [_, _, _, _, _, _]) (cp := L' + 1 + 1 + 1) F3 N3 hlam ?_ hn65 rfl ?_
  · simp only [List.forall_mem_cons, List.not_mem_nil, false_imp_iff, implies_true, and_true]
    refine ⟨neN ?_, neN ?_, neN ?_, neN ?_, neN ?_, neN ?_⟩ <;> omega
  intro f c' ctv imm4 h4 tk4 F4 N4 hc4 hw4 hs4 hn4 hf4 hf4'
  simp only [List.cons_append, List.nil_append] at N4 hf4 hn4
  clear F3 N3
  have fI : @LT.lt Nat _ I f := hf4 _ (.head _)
  have fd : @LT.lt Nat _ dA f := hf4 _ (.tail _ (.head _))
  have fl : @LT.lt Nat _ lA f := hf4 _ (.tail _ (.tail _ (.head _)))
  have fc : @LT.lt Nat _ (L' + 1 + 1 + 1) f := hf4 _ (.tail _ (.tail _ (.tail _ (.head _))))
  have imc : ∀ p ∈ imm4, p ∈ imm ∨ (@LT.lt Nat _ (L' + 1 + 1 + 1) p.1 ∧ @LT.lt Nat _ I p.1 ∧ @LT.lt Nat _ 65 p.1) := fun p hp => (hn4 p hp).imp id fun q => ⟨q _ (.tail _ (.tail _ (.tail _ (.head _)))), q _ (.head _), q _ (.tail _ (.tail _ (.tail _ (.tail _ (.tail _ (.tail _ (.head _)))))))⟩
  k_steps
  rename Fr _ _ _ _ => F5
  rename News _ _ _ _ => N5
  have hsub5 : Sub g₀ _ := fun b o e => F5.keep b o (sg b o e)
  have hspl : (dealSt its i).2.length ≤ 20 := by have := dealSt_len its i; omega
  refine split_H (pile := 0 + (i : Int)) G hsub5 (N5 _ (.head _)).1 (none_of sg (N5 _ (.head _)).2.2) (hc4.code F5 fun p hp => N5 p (.tail _ (.tail _ (.tail _ (.tail _ (.tail _ (.tail _ (.tail _ (.tail _ hp))))))))) (N5 _ (.tail _ (.tail _ (.tail _ (.tail _ (.head _)))))).1 hoP3 (N5 _ (.tail _ (.tail _ (.tail _ (.head _))))).1 (its := (dealSt its i).2) ?_ (by omega) (by ktr_room) (by ktr_units) ?_
  · intro x hx
    exact ((hsp x hx).sub hs4).spot (fun p hp => N5 p (.tail _ (.tail _ (.tail _ (.tail _ (.tail _ (.tail _ (.tail _ (.tail _ hp)))))))))
  intro D Y Z cD e1' e2' h6 tk6 kb6 hYL hZL hDL hDg hYg hZg nDY nDZ nYZ
  have ed1 : (dealSt its (i + 1)).1.map It.v = (dealSt its i).1.map It.v ++ ((dealSt its i).2.filter fun x => x.r == 0 + (i : Int)).map It.v := by rw [Int.zero_add, ← List.map_append]; rfl
  have ed2 : (dealSt its (i + 1)).2.map It.v = ((dealSt its i).2.filter fun x => !(x.r == 0 + (i : Int))).map It.v := by rw [Int.zero_add]; rfl
  rw [ed1, ed2] at hret
  have hl1 : ((dealSt its i).1.map It.v).length ≤ 20 := by have := dealSt_len its i; rw [List.length_map]; omega
  have hl2 : (((dealSt its i).2.filter fun x => x.r == 0 + (i : Int)).map It.v).length ≤ 20 := by rw [List.length_map]; exact Nat.le_trans (List.length_filter_le _ _) hspl
  have hl3 : (((dealSt its i).2.filter fun x => !(x.r == 0 + (i : Int))).map It.v).length ≤ 20 := by rw [List.length_map]; exact Nat.le_trans (List.length_filter_le _ _) hspl
  generalize (dealSt its i).1.map It.v = ds at *
  generalize ((dealSt its i).2.filter fun x => x.r == 0 + (i : Int)).map It.v = ys at *
  generalize ((dealSt its i).2.filter fun x => !(x.r == 0 + (i : Int))).map It.v = zs at *
  have gN : ∀ {y : Addr}, @LT.lt Nat _ L' y → g.get? y = none := fun h => Heap.get?_none_of_le (Nat.le_trans F5.above (Nat.le_of_lt h))
  have F6 := fr_kb (ex := []) F5 (fun b o _ e => kb6 b o e) List.not_mem_nil (fun _ h => nomatch h)
  have N6 := news_cons hDg (show D ≠ L' from neN (by omega)) (gN (by omega)) (news_cons hYg (show Y ≠ L' from neN (by omega)) (gN (by omega)) (news_cons hZg (show Z ≠ L' from neN (by omega)) (gN (by omega)) (news_kb (ex := []) N5 (fun b o _ e => kb6 b o e) (fun _ _ => List.not_mem_nil))))
  clear F5 N5 kb6
  k_steps
  rename Fr _ _ _ _ => F7
  rename News _ _ _ _ => N7
  refine ⟨_, [.ref Y, .ref Z], _, rfl, rfl, F7, N7, ⟨_, .head _⟩, by rw [sizeLine_eq]; exact Nat.le_of_ble_eq_true rfl, fun gg => ?_⟩
  refine compRest_inv 2 (fun j ws nw => nw = (D, tupO [.ref Y, .ref Z] cD) :: (Y, listOf ys.toArray e1') :: (Z, listOf zs.toArray e2') :: (f, lamFn w.params (L' + 1 + 1 + 1) ((mg (Str.ofString "__name__")).getD Value.none) c' ctv) :: (I, it) :: (dA, listOf ds.toArray e1) ::
                (lA, listOf (List.map It.v (dealSt its i).snd).toArray e2) :: (L' + 1 + 1 + 1, oP3) :: (L' + 1 + 1, o2) :: (L' + 1, o3) :: (65, tabObj (lamPs w c')) :: imm4 ∧ ws = List.replicate j (.bool true)) ?_ ?_ 2 0 [] _ rfl ⟨rfl, rfl⟩
  · rintro j ws nw v J oJ C oC B m₂ h8 tk8 E' hj ⟨rfl, rfl⟩ hP hC hx F8 N8 off8
    rcases j with _ | _ | j
    · have e : v = .ref Y := (Option.some.inj hP).symm
      subst e
      k_steps
      rename Fr _ _ _ _ => F9
      rename News _ _ _ _ => N9
      exact ⟨_, _, _, rfl, F9, N9, off8, ⟨_, .head _⟩, rfl, rfl⟩
    · have e : v = .ref Z := (Option.some.inj hP).symm
      subst e
      k_steps
      rename Fr _ _ _ _ => F9
      rename News _ _ _ _ => N9
      exact ⟨_, _, _, rfl, F9, N9, off8, ⟨_, .head _⟩, rfl, rfl⟩
    · omega
  · rintro ws nw ⟨rfl, rfl⟩
    intro B h8 tk8 F8 N8 off8
    k_steps
    dsimp only
    rename Fr _ _ _ _ => F9
    rename News _ _ _ _ => N9
    (try dsimp only at F9 N9)
    refine hret _ Z 0 e2' oP3 _ imm4 _ _ _ F9 (news_sub N9 ?_) ⟨_, hoP3⟩ rfl rfl ⟨c', rfl, hc4, hw4⟩ hs4 (fun p hp => (imc p hp).imp id fun q => q.1) ?_ ?_ ?_ ?_ ?_ ?_ ?_
    · intro p hp
      rcases List.mem_cons.mp hp with rfl | hp
      · exact List.mem_of_getElem? (i := 7) rfl
      rcases List.mem_cons.mp hp with rfl | hp
      · exact List.mem_of_getElem? (i := 0) rfl
      rcases List.mem_cons.mp hp with rfl | hp
      · exact List.mem_of_getElem? (i := 5) rfl
      rcases List.mem_cons.mp hp with rfl | hp
      · exact List.mem_of_getElem? (i := 10) rfl
      rcases List.mem_cons.mp hp with rfl | hp
      · exact List.mem_of_getElem? (i := 11) rfl
      rcases List.mem_cons.mp hp with rfl | hp
      · exact List.mem_of_getElem? (i := 12) rfl
      rcases List.mem_cons.mp hp with rfl | hp
      · exact List.mem_of_getElem? (i := 13) rfl
      exact List.mem_append_right [_, _, _, _, _, _, _, _, _, _, _, _, _, _] hp
    · intro p hp
      rcases imc p hp with q | q
      · exact hn3 p q
      · exact neN (by omega)
    · intro p hp
      rcases imc p hp with q | q
      · exact hn65 p q
      · exact neN (by omega)
    · intro p hp
      rcases imc p hp with q | q
      · exact hiI p q
      · exact neN (by omega)
    · omega
    · omega
    · omega
    · omega
end
section -- D3
set_option maxHeartbeats 1000000
local macro_rules | `(tactic| tb_start) => `(tactic| ((case X => k_asm); (case T => k_asm); (case hs => k_asm); (case ho => k_is); (case hcd => k_is); (case hroom => ktr_room); (case hb => exact rfl); (case kB => exact rfl); (case kD => decide +kernel); (case c2 => exact rfl); (case c3 => exact rfl); (case c4 => exact rfl)))
theorem codeRec_hid {h g : Heap} {hid : List (Addr × Obj)} {c : Addr} {q : Str} (cr : h.CodeRec (.ref c) q) (k : KB (hid.map (·.1)) h g) (hh : ∀ p ∈ hid, h.get? p.1 = some p.2) (hp : ∀ p ∈ hid, ∃ ps : Array Value, p.2 = tabObj ps ∧ ∀ s t, ps[1]? ≠ some (.str s t)) : g.CodeRec (.ref c) q := by
  obtain ⟨c', oc, vs, t, e', ho, hd, hv⟩ := cr
  cases e'
  refine ⟨c, oc, vs, t, rfl, k _ _ (fun q => ?_) ho, hd, hv⟩
  obtain ⟨p, hp1, rfl⟩ := List.mem_map.mp q
  obtain ⟨ps, e, hps⟩ := hp p hp1
  rw [hh p hp1] at ho
  cases ho
  rw [e] at hd
  cases hd
  exact hps _ _ hv
theorem lamPs_inj {w : World} {c c' : Addr} (h : lamPs w c = lamPs w c') : c = c' := by
  simpa [lamPs] using h
theorem lamPs_ne {w : World} {c : Addr} (h : lamPs w c = #[]) : False := by simp [lamPs] at h
/-- the told cards in the deck's order -/
def keysOf (np : Nat) (cs : List Value) : List (Int × Int × Value) := (List.range cs.length).map (fun (j : Nat) => ((j : Int) / (np : Int), (j : Int) % (np : Int), cs.getD j .none))
def dealK (l : List (Int × Int × Value)) : Nat → List (Int × Int × Value) × List (Int × Int × Value)
  | 0 => ([], l)
  | i + 1 => ((dealK l i).1 ++ (dealK l i).2.filter (fun x => x.2.1 == (i : Int)), (dealK l i).2.filter (fun x => !(x.2.1 == (i : Int))))
def dealKeys (np : Nat) (cs : List Value) : List (Int × Int × Value) := (dealK (keysOf np cs) (np - 1)).1 ++ (dealK (keysOf np cs) (np - 1)).2
abbrev It.key (i : It) : Int × Int × Value := (i.q, i.r, i.card)
theorem dealSt_keys (its : List It) : ∀ i, (dealSt its i).1.map It.key = (dealK (its.map It.key) i).1 ∧ (dealSt its i).2.map It.key = (dealK (its.map It.key) i).2
  | 0 => ⟨rfl, rfl⟩
  | i + 1 => by
    obtain ⟨h1, h2⟩ := dealSt_keys its i
    have f : ∀ (q : Int → Bool) (l : List It), (l.filter fun x => q x.r).map It.key = (l.map It.key).filter fun x => q x.2.1 := fun q l => by
      rw [List.filter_map]; rfl
    simp only [dealSt, dealK, List.map_append, h1]
    rw [f (fun r => r == (i : Int)), f (fun r => !(r == (i : Int))), h2]
    exact ⟨rfl, rfl⟩
theorem dealSt_sub (its : List It) : ∀ i, (∀ x ∈ (dealSt its i).1, x ∈ its) ∧ (∀ x ∈ (dealSt its i).2, x ∈ its)
  | 0 => ⟨(fun _ h => nomatch h), fun _ h => h⟩
  | i + 1 => by
    obtain ⟨h1, h2⟩ := dealSt_sub its i
    refine ⟨fun x hx => ?_, fun x hx => h2 x (List.mem_filter.mp hx).1⟩
    rcases List.mem_append.mp hx with hx | hx
    · exact h1 x hx
    · exact h2 x (List.mem_filter.mp hx).1
local macro_rules | `(tactic| walk_at "binaryOp Add ref ref") => `(tactic| (k_here; k_dflt (refine' add_L ?F ?N ?a ?b ?z ?_; (case F => k_asm); (case N => k_asm); (case a => k_mem); (case b => k_mem); (case z => omega)); intro D' h' F' N' l1 lL; (k_lt l1)))
theorem dealt_T {w : World} {p : Program} {loose : List Str} {mean : ExcName → Option Value} {mg mb : Str → Option Value} {g₀ : Heap} (G : Gd w p loose mean mg mb g₀)
   {dk : Addr} {cs : List Value} {ep : Nat} {np : Nat} {tp : Tok} (hp2 : 2 ≤ np) (hp4 : np ≤ 4) (hn : cs.length ≤ 20)
   {dp un : Nat} {fr : Option (List Env)} {gd : Option (List Code)} {s : Shared} {Q E : Value → Shared → Prop} (hs : Sub g₀ s.heap) (hd : s.heap.get? dk = some (listOf cs.toArray ep))
   {ps : Array Value} (h65 : s.heap.get? 65 = some (tabObj ps)) (hps : LamTab w s.heap ps) {imm : List (Addr × Obj)} (himm : ∀ p ∈ imm, s.heap.get? p.1 = some p.2) (hgi : ∀ p ∈ imm, g₀.get? p.1 = none) (hdi : ∀ p ∈ imm, p.1 ≠ dk) (hst : imm = coldl ∨ (imm = [] ∧ Warm w s.heap))
   (hdp : dp + 300 < recursionLimit) (hun : un + 1500 < cLine) (hn1 : 1 ≤ cs.length)
   (hret : ∀ D its e new c h' tk', KB (65 :: imm.map (·.1)) s.heap h' → (∀ p ∈ new, h'.get? p.1 = some p.2) → (∀ p ∈ new, (∃ q ∈ imm, q.1 = p.1) ∨ @LE.le Nat _ s.heap.objs.size p.1) → (imm = coldl → WarmIn w new) →
     h'.get? 65 = some (tabObj (lamPs w c)) → ((ps = #[] ∧ LamN new c) ∨ ps = lamPs w c) → (D, listOf (its.map It.v).toArray e) ∈ new → SpotsL new its → its.map (fun i => (i.q, i.r, i.card)) = dealKeys np cs → Q (.ref D) { s with heap := h', toks := tk' }) :
   wpAny (model PySem.Challenge.rw_ph0093_01.row.prog w) (AA dp un fr gd) (call (.ref 68) [.ref dk, .int (np : Int) tp]) Q E s := by
  have X := G.X
  have T := G.T
  revert X; k_fill; intro X
  k_dflt (refine' enterKC (binds := [(Str.ofString "deck", .ref dk), (Str.ofString "piles", .int (np : Int) tp)]) ((65, tabObj ps) :: imm) (List.forall_mem_cons.mpr ⟨h65, himm⟩) ?X ?T ?hs (List.forall_mem_cons.mpr ⟨G.n3, hgi⟩) ?ho ?hcd ?hroom ?hb ?kB ?kD ?_ ?c2 ?c3 ?c4; tb_start)
  intro g L' h₁ tk cells F N Y kb sb sg X' T' hL hl
  have hgim : ∀ p ∈ imm, g.get? p.1 = none := fun p hp => (N p (List.mem_append_right _ (.tail _ hp))).2.2
  have hdg : g.get? dk = some (listOf cs.toArray ep) := kb _ _ (by
    simp only [List.map_cons, List.mem_cons, List.mem_map, not_or, not_exists, not_and]
    refine ⟨fun q => ?_, fun p hp q => hdi p hp q⟩
    rw [q, h65] at hd
    have := congrArg Obj.data (Option.some.inj hd)
    cases this) hd
  have hlg : g.IsList dk cs.toArray := ⟨_, hdg, rfl, _, rfl⟩
  k_lt hl
  k_cells Y
  (try simp only [List.cons_append, List.nil_append] at N)
  (try dsimp only)
  (try k_fold)
  walk1
  refine' LCg.Assign_ListComp_U F rfl ?sw ?cl ?ce ?ki ?na ?hx ?hy ?hp ?_
  (case cl => exact rfl)
  (case sw => exact rfl)
  (case ce => decide)
  (case ki => exact rfl)
  (case na => decide)
  (case hx => exact rfl)
  (case hy => exact rfl)
  (case hp => exact rfl)
  k_steps
  refine len_list (hlg.at fun o e => F.keep _ o e) (by simp; omega) ?_
  rw [List.size_toArray]
  dsimp only
  walk1
  refine range1_rows F N ?_
  intro h2 tk2 t1 u1 v1 hr F2 N2 kp
  obtain ⟨rs1, rs2, rs3⟩ := range_src (n := cs.length) (by omega)
  clear F N
  rename_i o1 o2 o3 d1 d2 d3
  have d1' : o1.data = .cell none := d1
  have d2' : o2.data = .cell (some (.int (np : Int) tp)) := d2
  have d3' : o3.data = .cell (some (.ref dk)) := d3
  clear d1 d2 d3
  have hwg : imm = coldl ∨ Warm w g := by
    rcases hst with e | ⟨e, hw⟩
    · exact .inl e
    · subst e
      exact .inr (hw.tab kb h65 hps.nostr (show 65 ≠ 37 by decide) (show 65 ≠ 44 by decide))
  refine LCg.CompSrc.range rfl F2 N2 hr rs1 rs2 rs3 fun gg => ?_
  refine compRest_inv cs.length (fun i ys nw => ∃ imm', nw = (L' + 1 + 1 + 1, o1) :: (L' + 1 + 1, o2) :: (L' + 1, o3) :: (65, tabObj ps) :: imm' ∧ ((i = 0 ∧ imm' = coldl) ∨ Wst w g imm') ∧ ∃ its : List It, ys = its.map It.v ∧ its.map (fun i => (i.q, i.r, i.card)) = (List.range i).map (fun (j : Nat) => ((j : Int) / (np : Int), (j : Int) % (np : Int), cs.getD j .none)) ∧ SpotsL imm' its ∧ (∀ p ∈ imm', (∃ q ∈ imm, q.1 = p.1) ∨ @LT.lt Nat _ (L' + 1 + 1 + 1) p.1)) ?_ ?_ cs.length 0 [] _ (by omega) ?_
  · rintro i ys nw v I oI C oC D m₂ h tk E' hi ⟨imm', rfl, hst', its, rfl, hk, hsp, hnw⟩ ⟨tv, rfl⟩ hC hx F N off
    have X9 := X'
    rw [Int.zero_add] at hx
    (try k_fold)
    k_steps
    rename Fr _ _ _ _ => F
    have hL37 : imm' = coldl → 37 < L' ∧ 44 < L' := fun e => by
      rcases hst with e0 | ⟨_, hw⟩
      · subst e0
        have a1 := Heap.lt_size (himm _ (.head _))
        have a2 := Heap.lt_size (himm _ (.tail _ (.head _)))
        rw [hL] at a1 a2
        exact ⟨a1, a2⟩
      · have a1 := Heap.lt_size hw.1.choose_spec.1
        have a2 := Heap.lt_size hw.2.choose_spec.1
        rw [hL] at a1 a2
        exact ⟨a1, a2⟩
    have hICD : I < h.objs.size ∧ C < h.objs.size ∧ D < h.objs.size := ⟨Heap.lt_size (N _ (.head _)).1, Heap.lt_size (N _ (.tail _ (.head _))).1, Heap.lt_size (N _ (.tail _ (.tail _ (.head _)))).1⟩
    have hL3h : @LT.lt Nat _ (L' + 1 + 1 + 1) h.objs.size := Heap.lt_size (N _ (.tail _ (.tail _ (.tail _ (.head _))))).1
    refine idm_L G (by omega) (by omega) (by omega) (by omega) (pre := [_, _, _, _, _, _, _]) sg F N (hst'.imp (fun ⟨a, b⟩ => ⟨by omega, b⟩) id) ?_ (by ktr_room) (by ktr_units) ?_
    · intro e p hp
      have o37 := off (37, tabObj #[]) (by subst e; exact .tail _ (.tail _ (.tail _ (.tail _ (.head _)))))
      have o44 := off (44, tabObj #[]) (by subst e; exact .tail _ (.tail _ (.tail _ (.tail _ (.tail _ (.head _))))))
      have hl := hL37 e
      simp only [List.mem_cons, List.not_mem_nil, or_false] at hp
      rcases hp with rfl | rfl | rfl | rfl | rfl | rfl | rfl
      · exact ⟨Ne.symm o37.1, Ne.symm o44.1⟩
      · exact ⟨Ne.symm o37.2.1, Ne.symm o44.2.1⟩
      · exact ⟨Ne.symm o37.2.2, Ne.symm o44.2.2⟩
      · dsimp only; constructor <;> (refine neN ?_; omega)
      · dsimp only; constructor <;> (refine neN ?_; omega)
      · dsimp only; constructor <;> (refine neN ?_; omega)
      · exact ⟨show 65 ≠ 37 by decide, show 65 ≠ 44 by decide⟩
    intro T2 t1 t2 c imm2 h3 tk3 F3 N3 hw3 hk3 hnew3 hT2 hT2s
    simp only [List.cons_append, List.nil_append] at N3
    dsimp only at hnew3 hT2s
    clear F N
    k_steps
    have hxi : cs.toArray[((i : Int)).toNat]? = some (cs.getD i .none) := by
      rw [Int.toNat_natCast, List.getElem?_toArray, List.getElem?_eq_getElem hi, List.getD_eq_getElem?_getD, List.getElem?_eq_getElem hi]; rfl
    rename Fr _ _ _ _ => F3
    refine item_list (hlg.at fun o e => F3.keep _ o e) (by omega) (by omega) hxi ?_
    k_steps
    rename Fr _ _ _ _ => F9
    rename News _ _ _ _ => N9
    rename_i T1 h9 l9
    refine ⟨_, _, (L' + 1 + 1 + 1, o1) :: (L' + 1 + 1, o2) :: (L' + 1, o3) :: (65, tabObj ps) :: (T1, tupO [.ref T2, cs.getD i .none] 0) :: imm2, rfl, F9, ?_, ?_, trivial, (T1, tupO [.ref T2, cs.getD i .none] 0) :: imm2, rfl, .inr (hw3.sub fun p hp => .tail _ hp), its ++ [⟨.ref T1, (i : Int) / np, (i : Int) % np, cs.getD i .none⟩], ?_, ?_, ?_, ?_⟩
    · intro p hp
      refine N9 p ?_
      exact mem_mid (pre := [_, _, _, _, _, _, _]) hp
    · intro p hp
      rcases List.mem_cons.mp (mem_mid (pre := [_, _, _, _]) hp) with rfl | hp
      · exact ⟨neN (by dsimp only; omega), neN (by dsimp only; omega), neN (by dsimp only; omega)⟩
      · rcases mem_or (s := [_, _, _, _]) hp with h | h
        · exact off p (List.mem_append_left imm' h)
        · rcases hnew3 p h with ⟨q, hq, e⟩ | hq
          · rw [← e]; exact off q (.tail _ (.tail _ (.tail _ (.tail _ hq))))
          · exact ⟨Nat.ne_of_gt (Nat.lt_of_lt_of_le hICD.1 hq), Nat.ne_of_gt (Nat.lt_of_lt_of_le hICD.2.1 hq), Nat.ne_of_gt (Nat.lt_of_lt_of_le hICD.2.2 hq)⟩
    · rw [List.map_append]; rfl
    · rw [List.map_append, hk, List.range_succ, List.map_append]; rfl
    · intro j hj
      rcases List.mem_append.mp hj with hj1 | hj1
      · rcases hk3 with ⟨e0, _⟩ | hk3
        · have : i = 0 := by omega
          subst this
          have e2 : its = [] := by simpa using hk
          exact absurd hj1 (by rw [e2]; exact List.not_mem_nil)
        · exact (hsp j hj1).sub fun p hp => .tail _ (hk3 p hp)
      · rw [List.mem_singleton.mp hj1]
        exact ⟨T1, T2, 0, c, t1, t2, rfl, .head _, .tail _ hT2⟩
    · intro p hp
      rcases List.mem_cons.mp hp with rfl | hp
      · exact .inr (by dsimp only; omega)
      · rcases hnew3 p hp with ⟨q, hq, e⟩ | hq
        · rw [← e]; exact hnw q hq
        · exact .inr (by omega)
  · rintro ys nw ⟨imm', rfl, hst', its, rfl, hk, hsp, hnw⟩
    intro D h tk F N off
    have c3' := G.c3.keeps sg
    have X9 := X'
    have hLc : ∀ q ∈ imm, @LT.lt Nat _ q.1 L' := fun q hq => by rw [← hL]; exact Heap.lt_size (himm q hq)
    have hi65 : ∀ q ∈ imm, q.1 ≠ 65 := fun q hq => by
      rcases hst with e | ⟨e, _⟩
      · subst e
        simp only [List.mem_cons, List.not_mem_nil, or_false] at hq
        rcases hq with rfl | rfl
        · exact show 37 ≠ 65 by decide
        · exact show 44 ≠ 65 by decide
      · subst e; cases hq
    have hh0 : @LT.lt Nat _ (L' + 1 + 1 + 1) h.objs.size := Heap.lt_size (N _ (.tail _ (.head _))).1
    have oD := off
    simp only [LCg.Off1] at oD
    have hlen : its.length ≤ 20 := by
      have := congrArg List.length hk
      simp only [List.length_map, List.length_range] at this
      omega
    have hcg : ∀ {c : Addr}, s.heap.CodeRec (.ref c) lamQ → g.CodeRec (.ref c) lamQ := fun hc => codeRec_hid hc kb (List.forall_mem_cons.mpr ⟨h65, himm⟩) (by
      refine List.forall_mem_cons.mpr ⟨⟨_, rfl, hps.nostr⟩, fun p hp => ?_⟩
      rcases hst with e | ⟨e, _⟩
      · subst e
        simp only [List.mem_cons, List.not_mem_nil, or_false] at hp
        rcases hp with rfl | rfl <;> exact ⟨_, rfl, by simp⟩
      · subst e; cases hp)
    (try k_fold)
    k_steps
    refine For_any ?_
    k_steps
    rename Fr _ _ _ _ => F1
    rename News _ _ _ _ => N1
    rename IsRange _ _ _ _ _ _ _ _ => hr1
    have hsm : Builtin.Range.small 0 ((np : Int) - 1) 1 = true := small_one (by omega) (by omega) (by omega) (by omega)
    have hsz : Builtin.Range.rangeSize 0 ((np : Int) - 1) 1 = ((np - 1 : Nat) : Int) := by rw [rangeSize_one]; split <;> omega
    rename_i hq tkq tq uq vq kq
    dsimp only at F1 N1 hr1
    have hN1 := fun p hp => Heap.lt_size (N1 p hp).1
    refine iter_rangeW (n := np - 1) (fun i m nw => ∃ dA lA e1 e2 oP ps' imm'', nw = (dA, listOf ((dealSt its i).1.map It.v).toArray e1) :: (lA, listOf ((dealSt its i).2.map It.v).toArray e2) :: (L' + 1 + 1 + 1, oP) :: (L' + 1 + 1, o2) :: (L' + 1, o3) :: (65, tabObj ps') :: imm'' ∧
        (∃ v0, oP.data = .cell v0) ∧ m (Str.ofString "dealt") = some (.ref dA) ∧ m (Str.ofString "left") = some (.ref lA) ∧
        ((i = 0 ∧ ps' = ps) ∨ ∃ c, ps' = lamPs w c ∧ ((ps = #[] ∧ LamN imm'' c) ∨ ps = lamPs w c)) ∧ (∀ p ∈ imm', p ∈ imm'') ∧ (∀ p ∈ imm'', p.1 ≠ hq.objs.size) ∧ (∀ p ∈ imm'', (∃ q ∈ imm, q.1 = p.1) ∨ @LT.lt Nat _ (L' + 1 + 1 + 1) p.1) ∧
        @LT.lt Nat _ (L' + 1 + 1 + 1) dA ∧ (@Ne Nat lA (L' + 1 + 1 + 1) ∧ @Ne Nat lA 65) ∧ @Ne Nat dA hq.objs.size ∧ @Ne Nat lA hq.objs.size) rfl hr1 hsm hsz F1 N1 ?_ ?_ ?_ ?_
    · refine ⟨_, D, 0, _, o1, ps, imm', rfl, ⟨_, d1'⟩, rfl, rfl, .inl ⟨rfl, rfl⟩, fun _ h => h, fun p hp => Nat.ne_of_lt (hN1 p (List.mem_append_right [_, _, _, _, _, _] hp)), hnw, hh0, ⟨?_, ?_⟩, Nat.ne_of_lt (hN1 _ (.head _)), Nat.ne_of_lt (hN1 _ (.tail _ (.head _)))⟩
      · exact Ne.symm oD.1
      · exact Ne.symm oD.2.2.2.1
    · rintro i m nw ⟨dA, lA, e1, e2, oP, ps', imm'', rfl, _, _, _, _, _, off1, off2, hdA, hlA, ndA, nlA⟩ p hp
      have q1 := hN1 _ (.tail _ (.tail _ (.head _)))
      have q2 := hN1 _ (.tail _ (.tail _ (.tail _ (.head _))))
      have q3 := hN1 _ (.tail _ (.tail _ (.tail _ (.tail _ (.head _)))))
      have q4 := hN1 _ (.tail _ (.tail _ (.tail _ (.tail _ (.tail _ (.head _))))))
      simp only [List.mem_cons] at hp
      rcases hp with rfl | rfl | rfl | rfl | rfl | rfl | hp
      · exact ndA
      · exact nlA
      · exact Nat.ne_of_lt q1
      · exact Nat.ne_of_lt q2
      · exact Nat.ne_of_lt q3
      · exact Nat.ne_of_lt q4
      · exact off1 p hp
    · rintro i m₁ nw it h9 tk9 t9 hi ⟨dA, lA, e1, e2, oP, ps', imm'', rfl, ⟨v0, hoP⟩, hmd, hml, hlam, himm'', off1, off2, hdA, ⟨hlA, hlA5⟩, ndA, nlA⟩ F2 N2 _
      have hlamst : LamSt w g imm'' ps' := by
        rcases hlam with ⟨_, rfl⟩ | ⟨c, rfl, hc⟩
        · rcases hps with e | ⟨c, e, hc⟩
          · exact .inl e
          · exact .inr ⟨c, e, .inr (hcg hc)⟩
        · rcases hc with ⟨_, hc⟩ | e
          · exact .inr ⟨c, rfl, .inl hc⟩
          · rcases hps with e1 | ⟨c1, e1, hc1⟩
            · exact (lamPs_ne (e.symm.trans e1)).elim
            · have := lamPs_inj (e.symm.trans e1)
              subst this
              exact .inr ⟨c, rfl, .inr (hcg hc1)⟩
      have hn3 : ∀ p ∈ imm'', p.1 ≠ L' + 1 + 1 + 1 := fun p hp => by
        rcases off2 p hp with ⟨q, hq, e⟩ | hq
        · have := hLc q hq
          rw [e] at this
          exact neN (by omega)
        · exact neN (by omega)
      have hn65 : ∀ p ∈ imm'', p.1 ≠ 65 := fun p hp => by
        rcases off2 p hp with ⟨q, hq, e⟩ | hq
        · rw [← e]; exact hi65 q hq
        · exact neN (by omega)
      refine dealt_turn G sg (i := i) (its := its) (by omega) hlen (by omega) F2 N2 hoP hmd hml hlamst (fun x hx => (hsp x ((dealSt_sub its i).2 x hx)).sub himm'') hn3 hn65 hdA hlA hlA5 (hN1 _ (.tail _ (.tail _ (.head _)))) ndA nlA off1 (by omega) (by omega) ?_
      intro dA' lA' e1' e2' oP' ps'' im3 m' h' tk' F3 N3 hoP' hmd' hml' hlam' hs3 hn3' k3 k65 kI hdA' hlA' ndA' nlA'
      refine ⟨_, _, _, _, rfl, F3, N3, dA', lA', e1', e2', oP', ps'', im3, rfl, hoP', hmd', hml', .inr ?_, fun p hp => hs3 p (himm'' p hp), kI, ?_, hdA', ⟨?_, ?_⟩, ndA', nlA'⟩
      · obtain ⟨c, rfl, _, h1 | h1⟩ := hlam'
        · rcases hlam with ⟨_, e⟩ | ⟨c1, e, _⟩
          · exact ⟨c, rfl, .inl ⟨e.symm.trans h1.1, h1.2⟩⟩
          · exact (lamPs_ne (e.symm.trans h1.1)).elim
        · rcases hlam with ⟨_, e⟩ | ⟨c1, e, h2⟩
          · exact ⟨c, rfl, .inr (e.symm.trans h1)⟩
          · have := lamPs_inj (e.symm.trans h1)
            subst this
            exact ⟨c1, rfl, h2.imp (fun ⟨a, oc, vs, t, b, d⟩ => ⟨a, oc, vs, t, hs3 _ b, d⟩) id⟩
      · intro p hp
        exact (hn3' p hp).elim (off2 p) .inr
      · exact neN (by omega)
      · exact neN (by omega)
    · rintro m' nw h9 tk9 ⟨dA, lA, e1, e2, oP, ps', imm'', rfl, ⟨v0, hoP⟩, hmd, hml, hlam, himm'', off1, off2, hdA, hlA, ndA, nlA⟩ F2 N2
      rw [chain2 hmd hml] at F2
      change Fr g L' h9 _ at F2
      change News g L' h9 _ at N2
      have hz : ((dealSt its (np - 1)).1.map It.v).length + ((dealSt its (np - 1)).2.map It.v).length ≤ 20 := by
        rw [List.length_map, List.length_map, dealSt_len]; exact hlen
      dsimp only
      (try k_fold)
      k_steps
      dsimp only
      rename Fr _ _ _ _ => F9
      rename News _ _ _ _ => N9
      rename_i R h10 L10 l10
      obtain ⟨c, hc, hlamc⟩ : ∃ c, ps' = lamPs w c ∧ ((ps = #[] ∧ LamN imm'' c) ∨ ps = lamPs w c) := by
        rcases hlam with ⟨e, _⟩ | h
        · omega
        · exact h
      subst hc
      obtain ⟨k1, k2⟩ := dealSt_keys its (np - 1)
      rw [← List.map_append] at N9
      refine hret R ((dealSt its (np - 1)).1 ++ (dealSt its (np - 1)).2) 0 ((R, _) :: imm'') c _ _ ?_ ?_ ?_ ?_ (N9 _ (.tail _ (.tail _ (.tail _ (.tail _ (.tail _ (.tail _ (.head _)))))))).1 ?_ (.head _) ?_ ?_
      · exact fun b o hb e => F9.keep b o (kb b o hb e)
      · intro p hp
        rcases List.mem_cons.mp hp with rfl | hp
        · exact (N9 _ (.head _)).1
        · exact (N9 _ (.tail _ (.tail _ (.tail _ (.tail _ (.tail _ (.tail _ (.tail _ hp)))))))).1
      · intro p hp
        rcases List.mem_cons.mp hp with rfl | hp
        · exact .inr (by rw [hL]; exact Nat.le_of_lt L10)
        · rcases off2 p hp with h | h
          · exact .inl h
          · exact .inr (by rw [hL]; omega)
      · intro e
        rcases hst' with ⟨e1, _⟩ | e1 | e1
        · omega
        · exact e1.sub fun p hp => .tail _ (himm'' p hp)
        · obtain ⟨⟨_, a1, _⟩, _⟩ := e1
          rw [hgim (37, tabObj #[]) (by rw [e]; exact .head _)] at a1
          cases a1
      · rcases hlamc with ⟨a, oc, vs, t, b, d⟩ | e
        · exact .inl ⟨a, oc, vs, t, .tail _ b, d⟩
        · exact .inr e
      · intro x hx
        refine ((hsp x ?_).sub himm'').sub fun p hp => .tail _ hp
        rcases List.mem_append.mp hx with hx | hx
        · exact (dealSt_sub its _).1 x hx
        · exact (dealSt_sub its _).2 x hx
      · rw [List.map_append]
        show _ = dealKeys np cs
        unfold dealKeys keysOf
        rw [← hk]
        exact congr (congrArg _ k1) k2
  · refine ⟨imm, rfl, hwg.imp (fun e => ⟨rfl, e⟩) .inr, [], rfl, rfl, (fun _ h => nomatch h), fun p hp => .inl ⟨p, hp, rfl⟩⟩
end
section -- C2
set_option maxHeartbeats 1000000
open LCg
section
variable {prog : Program} {w : World} {A : Around} {E : Value → Shared → Prop} {R : Result → Shared → Prop} {s : Shared} {h₀ : Heap} {L : Addr} {m : Str → Option Value} {env : Env}
theorem compTurn_two0 (elt t1 i1 t2 i2 : Expr) (scope : Scope) (pos : Pos) (it acc : Value) (env : Env) :
    compTurn (.ListComp elt [⟨t1, i1, [], 0⟩, ⟨t2, i2, [], 0⟩] scope pos) 0 it acc env = (standAt i1.pos >>= fun _ => pyNext it >>= fun r => match r with
      | none => pure (.done .next)
      | some v => letOwnedTupleGo t1 it v >>= fun _ => assign t1 env v >>= fun _ =>
        eval i2 env >>= fun x => standAt i2.pos >>= fun _ => foldedSetIterable i2 env x >>= fun x => holding [x] (pyIter x) >>= fun it2 =>
          runOwn (.compStart (.ListComp elt [⟨t1, i1, [], 0⟩, ⟨t2, i2, [], 0⟩] scope pos) 1 it2 acc env) env >>= fun _ =>
          again (.compLoop (.ListComp elt [⟨t1, i1, [], 0⟩, ⟨t2, i2, [], 0⟩] scope pos) 0 it acc env)) := by rfl
theorem compTurn_two1 (elt t1 i1 t2 i2 : Expr) (scope : Scope) (pos : Pos) (it acc : Value) (env : Env) :
    compTurn (.ListComp elt [⟨t1, i1, [], 0⟩, ⟨t2, i2, [], 0⟩] scope pos) 1 it acc env = (standAt i2.pos >>= fun _ => pyNext it >>= fun r => match r with
      | none => pure (.done .next)
      | some v => letOwnedTupleGo t2 it v >>= fun _ => assign t2 env v >>= fun _ =>
        (eval elt env >>= fun x => call (.builtin "list.append") [acc, x] >>= fun _ => pure ()) >>= fun _ =>
          again (.compLoop (.ListComp elt [⟨t1, i1, [], 0⟩, ⟨t2, i2, [], 0⟩] scope pos) 1 it acc env)) := by rfl
abbrev NoErr (prog : Program) (w : World) (A : Around) (env : Env) (R : Result → Shared → Prop) : Value → Shared → Prop := notedBy (model prog w) A env fun e s' => R (.error e) s'
theorem compLoop_two1 {elt t1 i1 t2 i2 : Expr} {scope : Scope} {pos : Pos} {it acc : Value} {env : Env} (I : Nat → Shared → Prop)
    (turn : ∀ n s, I n s → wpAny (model prog w) A (pyNext it) (fun r s₁ => match r with
      | none => R (.ok .next) s₁
      | some v => wpAny (model prog w) A (assign t2 env v) (fun _ s₂ => wpAny (model prog w) A (eval elt env) (fun x s₃ =>
          wpAny (model prog w) A (call (.builtin "list.append") [acc, x]) (fun _ s₄ => ∃ m, m < n ∧ I m s₄) (NoErr prog w A env R) s₃) (NoErr prog w A env R) s₂) (NoErr prog w A env R) s₁) (NoErr prog w A env R) s)
    (n : Nat) (h : I n s) (ht : ∀ v, letOwnedTupleGo t2 it v = pure ()) :
    codeAny (model prog w) A (.compLoop (.ListComp elt [⟨t1, i1, [], 0⟩, ⟨t2, i2, [], 0⟩] scope pos) 1 it acc env) R s := by
  refine codeAny_loop rfl I (fun n s hI => ?_) n h
  show wpAny _ _ ((compTurn (.ListComp elt [⟨t1, i1, [], 0⟩, ⟨t2, i2, [], 0⟩] scope pos) 1 it acc env).onRaise (fun x => do noteFrame x env; theTreesLotGoes x)) _ _ s
  refine wpAny_noted ?_
  rw [compTurn_two1]
  refine wpAny_bind (wpAny_standAt (wpAny_bind (wpAny_mono (turn n s hI) (fun r s₁ h₁ => ?_) fun _ _ h' => h')))
  cases r with
  | none => exact wpAny_pure h₁
  | some v =>
    refine wpAny_bind (wpAny_of_eq (ht v) ?_)
    exact wpAny_bind (wpAny_mono h₁ (fun _ s₂ h₂ => wpAny_bind (wpAny_bind (wpAny_mono h₂ (fun x s₃ h₃ => wpAny_bind (wpAny_mono h₃
      (fun _ s₄ h₄ => wpAny_pure (wpAny_pure ⟨rfl, h₄⟩)) fun _ _ h' => h')) fun _ _ h' => h'))) fun _ _ h' => h')
theorem compStart_two1 {elt t1 i1 t2 i2 : Expr} {scope : Scope} {pos : Pos} {it acc : Value} {env : Env}
    (h0 : codeAny (model prog w) A (.compLoop (.ListComp elt [⟨t1, i1, [], 0⟩, ⟨t2, i2, [], 0⟩] scope pos) 1 it acc env) R s)
    (h : wpAny (model prog w) A (pyIter it) (fun it' s' => codeAny (model prog w) A (.compLoop (.ListComp elt [⟨t1, i1, [], 0⟩, ⟨t2, i2, [], 0⟩] scope pos) 1 it' acc env) R s') (NoErr prog w A env R) s) :
    codeAny (model prog w) A (.compStart (.ListComp elt [⟨t1, i1, [], 0⟩, ⟨t2, i2, [], 0⟩] scope pos) 1 it acc env) R s := by
  refine codeAny_of_tree ?_
  show wpAny _ _ ((compStart (.ListComp elt [⟨t1, i1, [], 0⟩, ⟨t2, i2, [], 0⟩] scope pos) 1 it acc env).onRaise (fun x => do noteFrame x env; standAt theWindowsPlace)) _ _ s
  refine wpAny_notedAt ?_
  unfold compStart
  show wpAny _ _ (ask >>= _) _ _ s
  refine wpAny_bind (wpAny_askSetting (wpAny_ite ?_))
  split
  · first
      | exact wpAny_bind (wpAny_pure (wpAny_pure (And.intro rfl h0)))
      | exact wpAny_pure (And.intro rfl h0)
  · first
      | exact wpAny_bind (wpAny_rule (wpAny_bind (wpAny_standAt (wpAny_bind (wpAny_mono h (fun it' s' h' => wpAny_pure (And.intro rfl h')) fun _ _ x => x)))))
      | (refine wpAny_bind (wpAny_rule ?_); show wpAny _ _ (standAt i2.pos >>= _) _ _ s; exact wpAny_bind (wpAny_standAt (wpAny_bind (wpAny_mono h (fun it' s' h' => wpAny_pure (And.intro rfl h')) fun _ _ x => x))))
theorem compLoop_two0 {elt t1 i1 t2 i2 : Expr} {scope : Scope} {pos : Pos} {it acc : Value} {env : Env} (I : Nat → Shared → Prop)
    (turn : ∀ n s, I n s → wpAny (model prog w) A (pyNext it) (fun r s₁ => match r with
      | none => R (.ok .next) s₁
      | some v => wpAny (model prog w) A (assign t1 env v) (fun _ s₂ => wpAny (model prog w) A (eval i2 env) (fun x s₃ => wpAny (model prog w) A (pyIter x) (fun it2 s₄ =>
          codeAny (model prog w) A (.compStart (.ListComp elt [⟨t1, i1, [], 0⟩, ⟨t2, i2, [], 0⟩] scope pos) 1 it2 acc env) (fun r s₅ => match r with | .ok _ => ∃ m, m < n ∧ I m s₅ | .error _ => False) s₄) (NoErr prog w A env R) s₃) (NoErr prog w A env R) s₂) (NoErr prog w A env R) s₁) (NoErr prog w A env R) s)
    (n : Nat) (h : I n s) (ht : ∀ v, letOwnedTupleGo t1 it v = pure ()) (hs : ∀ x, foldedSetIterable i2 env x = pure x) :
    codeAny (model prog w) A (.compLoop (.ListComp elt [⟨t1, i1, [], 0⟩, ⟨t2, i2, [], 0⟩] scope pos) 0 it acc env) R s := by
  refine codeAny_loop rfl I (fun n s hI => ?_) n h
  show wpAny _ A ((compTurn (.ListComp elt [⟨t1, i1, [], 0⟩, ⟨t2, i2, [], 0⟩] scope pos) 0 it acc env).onRaise (fun x => do noteFrame x env; theTreesLotGoes x)) _ _ s
  refine wpAny_noted ?_
  rw [compTurn_two0]
  refine wpAny_bind (wpAny_standAt (wpAny_bind (wpAny_mono (turn n s hI) (fun r s₁ h₁ => ?_) fun _ _ h' => h')))
  cases r with
  | none => exact wpAny_pure h₁
  | some v =>
    refine wpAny_bind (wpAny_of_eq (ht v) ?_)
    refine wpAny_bind (wpAny_mono h₁ (fun _ s₂ h₂ => wpAny_bind (wpAny_mono h₂ (fun x s₃ h₃ => wpAny_bind (wpAny_standAt (wpAny_bind (wpAny_of_eq (hs x) (wpAny_bind (wpAny_holding (wpAny_mono h₃ (fun it2 s₄ h₄ => ?_) fun _ _ h' => h'))))))) fun _ _ h' => h')) fun _ _ h' => h')
    refine wpAny_bind (wpAny_runOwn (codeAny_mono h₄ fun r s₅ h₅ => ?_))
    cases r with
    | ok f => exact wpAny_pure ⟨rfl, h₅⟩
    | error e => exact h₅.elim
/-- the end of an element within two loops -/
def EltP4 (h₀ : Heap) (L : Addr) (m : Str → Option Value) (s : Shared) (hd : List (Addr × Obj)) (J : Value → List (Addr × Obj) → Prop) (y : Value) (s₂ : Shared) : Prop :=
  ∃ h' tk' news', s₂ = { s with heap := h', toks := tk' } ∧ Fr h₀ L h' m ∧ News h₀ L h' (hd ++ news') ∧ (∀ p ∈ news', ∀ q ∈ hd, p.1 ≠ q.1) ∧ J y news'
/-- the end of the second loop's source -/
def SrcR2 (h₀ : Heap) (L : Addr) (m : Str → Option Value) (s : Shared) (hd : List (Addr × Obj)) (c : Nat) (J : List (Addr × Obj) → Prop) (y : Value) (s₂ : Shared) : Prop :=
  ∃ h' tk' news' r t u v, y = .ref r ∧ s₂ = { s with heap := h', toks := tk' } ∧ Fr h₀ L h' m ∧ News h₀ L h' (hd ++ news') ∧ (∀ p ∈ news', ∀ q ∈ hd, p.1 ≠ q.1) ∧ J news' ∧ IsRange h' r 0 (c : Int) 1 t u v
theorem rangeIt_at {h h' : Heap} {I : Addr} {a b c : Int} {o : Obj} (x : IsRangeIter h I a b c) (e : h.get? I = some o) (e' : h'.get? I = some o) : IsRangeIter h' I a b c := by
  have x' : h.get? I = some _ := x
  show h'.get? I = some _
  rw [e', ← e]; exact x'
theorem rangeIt_get {h : Heap} {I : Addr} {a b c : Int} (x : IsRangeIter h I a b c) : ∃ o, h.get? I = some o := ⟨_, x⟩
theorem RR_loop {elt i1 i2 : Expr} {x x₂ : Str} {px px₂ : Pos} {scope : Scope} {cl : List (Str × Addr)} {pos : Pos} {I C D : Addr} {m₀ : Str → Option Value} {news : List (Addr × Obj)} (n : Nat) (cnt : Nat → Nat) (J : Nat → Nat → List Value → List (Addr × Obj) → Prop)
    (hh : A.handled = none) (hkind : scope.kind = .function) (hx : scope.names.lookup x = some .local) (hx₂ : scope.names.lookup x₂ = some .local) (hxx : x ≠ x₂)
    (hcnt : ∀ i, i < n → cnt i < 1000) (hJl : ∀ i j ys nw, J i j ys nw → ys.length ≤ 1000)
    (hIL : I ≠ L) (hCL : C ≠ L) (hDL : D ≠ L) (hIC : I ≠ C) (hID : I ≠ D) (hCD : C ≠ D) (hI₀ : h₀.get? I = none) (hC₀ : h₀.get? C = none) (hD₀ : h₀.get? D = none)
    (inner : ∀ i ys nw oI oC m₂ h tk (E' : Value → Shared → Prop) t, i < n → J i 0 ys nw → NsObj oC m₂ → m₂ x = some (.int (i : Int) t) → Fr h₀ L h m → News h₀ L h ([(I, oI), (C, oC), (D, lst ys)] ++ nw) → (∀ p ∈ nw, ∀ q ∈ [(I, oI), (C, oC), (D, lst ys)], p.1 ≠ q.1) →
      wpAny (model prog w) A (eval i2 (compEnvC scope cl C env)) (SrcR2 h₀ L m s [(I, oI), (C, oC), (D, lst ys)] (cnt i) (J i 0 ys)) E' { s with heap := h, toks := tk })
    (turn : ∀ i j ys nw I2 o2 oI oC m₂ h tk (E' : Value → Shared → Prop) t t', i < n → j < cnt i → J i j ys nw → NsObj oC m₂ → m₂ x = some (.int (i : Int) t) → m₂ x₂ = some (.int (j : Int) t') → Fr h₀ L h m → News h₀ L h ([(I2, o2), (I, oI), (C, oC), (D, lst ys)] ++ nw) → (∀ p ∈ nw, ∀ q ∈ [(I2, o2), (I, oI), (C, oC), (D, lst ys)], p.1 ≠ q.1) →
      wpAny (model prog w) A (eval elt (compEnvC scope cl C env)) (EltP4 h₀ L m s [(I2, o2), (I, oI), (C, oC), (D, lst ys)] (fun y nw' => J i (j + 1) (ys ++ [y]) nw')) E' { s with heap := h, toks := tk })
    (step : ∀ i ys nw, i < n → J i (cnt i) ys nw → J (i + 1) 0 ys nw)
    {h₁ : Heap} {tk₁ : Nat} (hst : IsRangeIter h₁ I (0 + ((0 : Nat) : Int) * 1) ((n : Int) - ((0 : Nat) : Int)) 1) (F : Fr h₀ L h₁ m) (hn : h₁.Ns C m₀) (N : News h₀ L h₁ ((D, lst []) :: news)) (off : ∀ p ∈ news, p.1 ≠ I ∧ p.1 ≠ C ∧ p.1 ≠ D) (hJ : J 0 0 [] news)
    (fin : ∀ ys nw h' tk' m', J n 0 ys nw → Fr h₀ L h' m → h'.Ns C m' → News h₀ L h' ((D, lst ys) :: nw) → (∀ p ∈ nw, p.1 ≠ I ∧ p.1 ≠ C ∧ p.1 ≠ D) → R (.ok .next) { s with heap := h', toks := tk' })
    (ht1 : ∀ it v, letOwnedTupleGo (.Name x px) it v = pure ()) (ht2 : ∀ it v, letOwnedTupleGo (.Name x₂ px₂) it v = pure ()) (hs2 : ∀ env y, foldedSetIterable i2 env y = pure y) :
    codeAny (model prog w) A (.compLoop (.ListComp elt [⟨.Name x px, i1, [], 0⟩, ⟨.Name x₂ px₂, i2, [], 0⟩] scope pos) 0 (.ref I) (.ref D) (compEnvC scope cl C env)) R { s with heap := h₁, toks := tk₁ } := by
  refine compLoop_two0 (fun k s' => ∃ h' tk i ys m' nw, s' = { s with heap := h', toks := tk } ∧ i ≤ n ∧ k = n + 1 - i ∧ IsRangeIter h' I (0 + (i : Int) * 1) ((n : Int) - (i : Nat)) 1 ∧ Fr h₀ L h' m ∧ h'.Ns C m' ∧ News h₀ L h' ((D, lst ys) :: nw) ∧ (∀ p ∈ nw, p.1 ≠ I ∧ p.1 ≠ C ∧ p.1 ≠ D) ∧ J i 0 ys nw) ?_ (n + 1)
    ⟨h₁, _, 0, [], m₀, news, rfl, Nat.zero_le _, rfl, hst, F, hn, N, off, hJ⟩ (ht1 _) (hs2 _)
  rintro k s' ⟨h', tk, i, ys, m', nw, rfl, hi, rfl, hst', F', hn', N', off', hJ'⟩
  have W := range_walks (prog := prog) (w := w) (I := I) hh 0 n
  have keepN : ∀ {hA hB : Heap} {a : Addr} {l : List (Addr × Obj)}, News h₀ L hA l → (∀ b o, b ∉ [a] → hA.get? b = some o → hB.get? b = some o) → (∀ p ∈ l, p.1 ≠ a) → News h₀ L hB l := fun N k o => news_but N k o
  by_cases hlt : i < n
  · refine W.item i _ _ _ hlt hst' fun v h₂ tk₂ hPv hst₂ hk₂ => ?_
    obtain ⟨t, rfl⟩ := hPv
    rw [Int.zero_add]
    have F₂ : Fr h₀ L h₂ m := fr_but F' hk₂ (Ne.symm hIL) hI₀
    have N₂ : News h₀ L h₂ ((D, lst ys) :: nw) := keepN N' hk₂ fun p hp => by
      rcases List.mem_cons.mp hp with rfl | hp
      · exact Ne.symm hID
      · exact (off' p hp).1
    refine wpAny_assign_Name (wpAny_storeName_local (lookup_relabel_local hx) (hn'.at' fun o e => hk₂ _ o (by simpa using Ne.symm hIC) e) (fun h₃ hn₃ hs₃ => ?_) (by simp [compEnvC, relabel, hkind]))
    have F₃ : Fr h₀ L h₃ m := F₂.change hs₃ hCL hC₀
    have hst₃ : IsRangeIter h₃ I (0 + ((i + 1 : Nat) : Int) * 1) ((n : Int) - ((i + 1 : Nat) : Int)) 1 := by
      obtain ⟨o, e⟩ := rangeIt_get hst₂
      exact rangeIt_at hst₂ e (hs₃.extBut _ _ hIC e)
    obtain ⟨oI, heI⟩ := rangeIt_get hst₃
    obtain ⟨oC, heC, hoC⟩ := ns_obj hn₃
    have N₃ : News h₀ L h₃ ([(I, oI), (C, oC), (D, lst ys)] ++ nw) := fun p hp => by
      simp only [List.cons_append, List.nil_append, List.mem_cons] at hp
      rcases hp with rfl | rfl | hp
      · exact ⟨heI, hIL, hI₀⟩
      · exact ⟨heC, hCL, hC₀⟩
      · have z := N₂ p (List.mem_cons.mpr hp)
        refine ⟨hs₃.extBut _ _ ?_ z.1, z.2⟩
        rcases hp with rfl | hp
        · exact Ne.symm hCD
        · exact (off' p hp).2.1
    have off3 : ∀ p ∈ nw, ∀ q ∈ [(I, oI), (C, oC), (D, lst ys)], p.1 ≠ q.1 := fun p hp q hq => by
      simp only [List.mem_cons, List.not_mem_nil, or_false] at hq
      rcases hq with rfl | rfl | rfl
      · exact (off' p hp).1
      · exact (off' p hp).2.1
      · exact (off' p hp).2.2
    refine wpAny_mono (inner i ys nw oI oC _ h₃ _ _ t hlt hJ' hoC (by simp) F₃ N₃ off3) (fun x4 s₄ h₄ => ?_) fun _ _ e => e
    obtain ⟨h4, tk4, nw4, r, t4, u4, v4, rfl, rfl, F4, N4, off4, hJ4, hr4⟩ := h₄
    obtain ⟨rs1, rs2, rs3⟩ := range_src (hcnt i hlt)
    refine wpAny_pyIter_range hr4 rs1 ?_
    rw [rs2]
    dsimp only
    generalize hh5 : h4.push _ = h5
    have up : ∀ b o, h4.get? b = some o → h5.get? b = some o := fun b o e => hh5 ▸ Heap.get?_push_of_some _ e
    have hIt5 : IsRangeIter h5 h4.objs.size (0 + ((0 : Nat) : Int) * 1) ((cnt i : Int) - ((0 : Nat) : Int)) 1 := by
      rw [← hh5]; show Heap.get? _ _ = _; simpa using Heap.get?_push_size _ rfl
    have hlt4 : ∀ p ∈ [(I, oI), (C, oC), (D, lst ys)] ++ nw4, @LT.lt Nat _ p.1 h4.objs.size := fun p hp => Heap.lt_size (N4 p hp).1
    have hI2L : h4.objs.size ≠ L := Nat.ne_of_gt F4.ns.lt
    have hI2₀ : h₀.get? h4.objs.size = none := next_is_new F4
    have hI2I : I ≠ h4.objs.size := Nat.ne_of_lt (hlt4 _ (.head _))
    have hI2C : C ≠ h4.objs.size := Nat.ne_of_lt (hlt4 _ (.tail _ (.head _)))
    have hI2D : D ≠ h4.objs.size := Nat.ne_of_lt (hlt4 _ (.tail _ (.tail _ (.head _))))
    generalize hI2e : h4.objs.size = I2 at *
    have F5 : Fr h₀ L h5 m := F4.keeps up
    have hC4 : h4.get? C = some oC := (N4 _ (.tail _ (.head _))).1
    have hI4 : h4.get? I = some oI := (N4 _ (.head _)).1
    have W2 := range_walks (prog := prog) (w := w) (I := I2) hh 0 (cnt i)
    have loop2 : codeAny (model prog w) A (.compLoop (.ListComp elt [⟨.Name x px, i1, [], 0⟩, ⟨.Name x₂ px₂, i2, [], 0⟩] scope pos) 1 (.ref I2) (.ref D) (compEnvC scope cl C env))
        (fun r s₅ => match r with
          | .ok _ => ∃ m_1, m_1 < n + 1 - i ∧ ∃ h' tk i ys m' nw, s₅ = { s with heap := h', toks := tk } ∧ i ≤ n ∧ m_1 = n + 1 - i ∧ IsRangeIter h' I (0 + (i : Int) * 1) ((n : Int) - (i : Nat)) 1 ∧ Fr h₀ L h' m ∧ h'.Ns C m' ∧ News h₀ L h' ((D, lst ys) :: nw) ∧ (∀ p ∈ nw, p.1 ≠ I ∧ p.1 ≠ C ∧ p.1 ≠ D) ∧ J i 0 ys nw
          | .error _ => False) { s with heap := h5, toks := tk4 } := by
      refine compLoop_two1 (fun k s' => ∃ h' tk j ys' m' nw', s' = { s with heap := h', toks := tk } ∧ j ≤ cnt i ∧ k = cnt i + 1 - j ∧ IsRangeIter h' I2 (0 + (j : Int) * 1) ((cnt i : Int) - (j : Nat)) 1 ∧ Fr h₀ L h' m ∧ h'.Ns C m' ∧ m' x = some (.int (i : Int) t) ∧ News h₀ L h' ((I, oI) :: (D, lst ys') :: nw') ∧
          (∀ p ∈ nw', p.1 ≠ I2 ∧ p.1 ≠ I ∧ p.1 ≠ C ∧ p.1 ≠ D) ∧ J i j ys' nw') ?_ (cnt i + 1) ⟨h5, _, 0, ys, _, nw4, rfl, Nat.zero_le _, rfl, hIt5, F5, hoC.ns (up _ _ hC4), by simp, fun p hp => ?_, fun p hp => ?_, hJ4⟩ (ht2 _)
      · rintro k s' ⟨h6, tk6, j, ys6, m6, nw6, rfl, hj, rfl, hst6, F6, hn6, hm6, N6, off6, hJ6⟩
        by_cases hltj : j < cnt i
        · refine W2.item j _ _ _ hltj hst6 fun v h₇ tk₇ hPv hst₇ hk₇ => ?_
          obtain ⟨t', rfl⟩ := hPv
          rw [Int.zero_add]
          have F₇ : Fr h₀ L h₇ m := fr_but F6 hk₇ (Ne.symm hI2L) hI2₀
          have N₇ : News h₀ L h₇ ((I, oI) :: (D, lst ys6) :: nw6) := keepN N6 hk₇ fun p hp => by
            rcases List.mem_cons.mp hp with rfl | hp
            · exact hI2I
            · rcases List.mem_cons.mp hp with rfl | hp
              · exact hI2D
              · exact (off6 p hp).1
          refine wpAny_assign_Name (wpAny_storeName_local (lookup_relabel_local hx₂) (hn6.at' fun o e => hk₇ _ o (by simpa using hI2C) e) (fun h₈ hn₈ hs₈ => ?_) (by simp [compEnvC, relabel, hkind]))
          have F₈ : Fr h₀ L h₈ m := F₇.change hs₈ hCL hC₀
          have hst₈ : IsRangeIter h₈ I2 (0 + ((j + 1 : Nat) : Int) * 1) ((cnt i : Int) - ((j + 1 : Nat) : Int)) 1 := by
            obtain ⟨o, e⟩ := rangeIt_get hst₇
            exact rangeIt_at hst₇ e (hs₈.extBut _ _ (Ne.symm hI2C) e)
          obtain ⟨o2, he2⟩ := rangeIt_get hst₈
          obtain ⟨oC8, heC8, hoC8⟩ := ns_obj hn₈
          have N₈ : News h₀ L h₈ ([(I2, o2), (I, oI), (C, oC8), (D, lst ys6)] ++ nw6) := fun p hp => by
            simp only [List.cons_append, List.nil_append, List.mem_cons] at hp
            rcases hp with rfl | rfl | rfl | hp
            · exact ⟨he2, hI2L, hI2₀⟩
            · have z := N₇ _ (.head _)
              exact ⟨hs₈.extBut _ _ hIC z.1, z.2⟩
            · exact ⟨heC8, hCL, hC₀⟩
            · have z := N₇ p (.tail _ (List.mem_cons.mpr hp))
              refine ⟨hs₈.extBut _ _ ?_ z.1, z.2⟩
              rcases hp with rfl | hp
              · exact Ne.symm hCD
              · exact (off6 p hp).2.2.1
          have off8 : ∀ p ∈ nw6, ∀ q ∈ [(I2, o2), (I, oI), (C, oC8), (D, lst ys6)], p.1 ≠ q.1 := fun p hp q hq => by
            simp only [List.mem_cons, List.not_mem_nil, or_false] at hq
            rcases hq with rfl | rfl | rfl | rfl
            · exact (off6 p hp).1
            · exact (off6 p hp).2.1
            · exact (off6 p hp).2.2.1
            · exact (off6 p hp).2.2.2
          refine wpAny_mono (turn i j ys6 nw6 I2 o2 oI oC8 _ h₈ _ _ t t' hlt hltj hJ6 hoC8 (by simp [hxx, hm6]) (by simp) F₈ N₈ off8) (fun y s₉ h₉ => ?_) fun _ _ e => e
          obtain ⟨h9, tk9, nw9, rfl, F9, N9, off9, hJ9⟩ := h₉
          have z2 := (N9 _ (.head _)).1
          have zC := (N9 _ (.tail _ (.tail _ (.head _)))).1
          have zD := (N9 _ (.tail _ (.tail _ (.tail _ (.head _))))).1
          refine append_at (hsz := by show ys6.toArray.size ≤ sizeLine; rw [List.size_toArray, sizeLine_eq]; have := hJl _ _ _ _ hJ6; omega) zD fun h₁₀ hs₁₀ hD₁₀ => ?_
          refine ⟨cnt i + 1 - (j + 1), by omega, h₁₀, tk9, j + 1, ys6 ++ [y], _, nw9, rfl, hltj, rfl, rangeIt_at hst₈ he2 (hs₁₀.extBut _ _ (Ne.symm hI2D) z2), F9.change hs₁₀ hDL hD₀, (hoC8.ns zC).sameBut hs₁₀ hCD, by simp [hxx, hm6], fun p hp => ?_, fun p hp => ?_, hJ9⟩
          · rcases List.mem_cons.mp hp with rfl | hp
            · have z := N9 _ (.tail _ (.head _))
              exact ⟨hs₁₀.extBut _ _ hID z.1, z.2⟩
            · rcases List.mem_cons.mp hp with rfl | hp
              · exact ⟨hD₁₀.trans (congrArg some (lst_snoc ys6 y)), hDL, hD₀⟩
              · have z := N9 p (.tail _ (.tail _ (.tail _ (.tail _ hp))))
                exact ⟨hs₁₀.extBut _ _ (off9 p hp _ (.tail _ (.tail _ (.tail _ (.head _))))) z.1, z.2⟩
          · exact ⟨off9 p hp _ (.head _), off9 p hp _ (.tail _ (.head _)), off9 p hp _ (.tail _ (.tail _ (.head _))), off9 p hp _ (.tail _ (.tail _ (.tail _ (.head _))))⟩
        · obtain rfl : j = cnt i := Nat.le_antisymm hj (Nat.not_lt.mp hltj)
          refine W2.done _ _ _ hst6 fun h₇ tk₇ hk₇ => ?_
          have N₇ : News h₀ L h₇ ((I, oI) :: (D, lst ys6) :: nw6) := keepN N6 hk₇ fun p hp => by
            rcases List.mem_cons.mp hp with rfl | hp
            · exact hI2I
            · rcases List.mem_cons.mp hp with rfl | hp
              · exact hI2D
              · exact (off6 p hp).1
          refine ⟨n + 1 - (i + 1), by omega, h₇, tk₇, i + 1, ys6, m6, nw6, rfl, hlt, rfl, rangeIt_at hst₃ heI (N₇ _ (.head _)).1, fr_but F6 hk₇ (Ne.symm hI2L) hI2₀, hn6.at' fun o e => hk₇ _ o (by simpa using hI2C) e, fun p hp => N₇ p (.tail _ hp), fun p hp => (off6 p hp).2, step i ys6 nw6 hlt hJ6⟩
      · have z := N4 p (by
          rcases List.mem_cons.mp hp with rfl | hp
          · exact .head _
          · rcases List.mem_cons.mp hp with rfl | hp
            · exact .tail _ (.tail _ (.head _))
            · exact .tail _ (.tail _ (.tail _ hp)))
        exact ⟨up _ _ z.1, z.2⟩
      · exact ⟨Nat.ne_of_lt (hlt4 p (.tail _ (.tail _ (.tail _ hp)))), off4 p hp _ (.head _), off4 p hp _ (.tail _ (.head _)), off4 p hp _ (.tail _ (.tail _ (.head _)))⟩
    exact compStart_two1 loop2 (W2.self 0 _ _ _ hIt5 loop2)
  · obtain rfl : i = n := Nat.le_antisymm hi (Nat.not_lt.mp hlt)
    refine W.done _ _ _ hst' fun h₂ tk₂ hk₂ => ?_
    exact fin ys nw h₂ tk₂ m' hJ' (fr_but F' hk₂ (Ne.symm hIL) hI₀) (hn'.at' fun o e => hk₂ _ o (by simpa using Ne.symm hIC) e) (keepN N' hk₂ fun p hp => by
      rcases List.mem_cons.mp hp with rfl | hp
      · exact Ne.symm hID
      · exact (off' p hp).1) off'
/-- what a comprehension over two ranges starts from -/
def SrcRR (h₀ : Heap) (L : Addr) (m : Str → Option Value) (s : Shared) (n : Nat) (P : Shared → List (Addr × Obj) → Prop) (y : Value) (s₂ : Shared) : Prop :=
  ∃ h' tk' news r t u v, y = .ref r ∧ s₂ = { s with heap := h', toks := tk' } ∧ Fr h₀ L h' m ∧ News h₀ L h' news ∧ IsRange h' r 0 (n : Int) 1 t u v ∧ P s₂ news
theorem ListComp_RR {elt i1 i2 : Expr} {x x₂ : Str} {px px₂ : Pos} {scope : Scope} {cl : List (Str × Addr)} {pos : Pos} {Q : Value → Shared → Prop} (n : Nat) (cnt : Nat → Nat) (J : Nat → Nat → List Value → List (Addr × Obj) → Prop) (F₀ : Fr h₀ L s.heap m)
    (hh : A.handled = none) (hclos : closureFor scope env = pure cl) (hcell : ∀ y ∈ scope.names, y.2 ≠ .cell) (hkind : scope.kind = .function)
    (hnames : ∀ y ∈ scope.names, y.2 = .local → scope.names.lookup y.1 = some .local) (hx : scope.names.lookup x = some .local) (hx₂ : scope.names.lookup x₂ = some .local) (hxx : x ≠ x₂)
    (hn : n < 1000) (hcnt : ∀ i, i < n → cnt i < 1000) (hJl : ∀ i j ys nw, J i j ys nw → ys.length ≤ 1000)
    (inner : ∀ i ys nw I C D oI oC m₂ h tk (E' : Value → Shared → Prop) t, i < n → J i 0 ys nw → NsObj oC m₂ → m₂ x = some (.int (i : Int) t) → Fr h₀ L h m → News h₀ L h ([(I, oI), (C, oC), (D, lst ys)] ++ nw) → (∀ p ∈ nw, ∀ q ∈ [(I, oI), (C, oC), (D, lst ys)], p.1 ≠ q.1) →
      wpAny (model prog w) A (eval i2 (compEnvC scope cl C env)) (SrcR2 h₀ L m s [(I, oI), (C, oC), (D, lst ys)] (cnt i) (J i 0 ys)) E' { s with heap := h, toks := tk })
    (turn : ∀ i j ys nw I2 I C D o2 oI oC m₂ h tk (E' : Value → Shared → Prop) t t', i < n → j < cnt i → J i j ys nw → NsObj oC m₂ → m₂ x = some (.int (i : Int) t) → m₂ x₂ = some (.int (j : Int) t') → Fr h₀ L h m → News h₀ L h ([(I2, o2), (I, oI), (C, oC), (D, lst ys)] ++ nw) → (∀ p ∈ nw, ∀ q ∈ [(I2, o2), (I, oI), (C, oC), (D, lst ys)], p.1 ≠ q.1) →
      wpAny (model prog w) A (eval elt (compEnvC scope cl C env)) (EltP4 h₀ L m s [(I2, o2), (I, oI), (C, oC), (D, lst ys)] (fun y nw' => J i (j + 1) (ys ++ [y]) nw')) E' { s with heap := h, toks := tk })
    (step : ∀ i ys nw, i < n → J i (cnt i) ys nw → J (i + 1) 0 ys nw)
    (fin : ∀ ys nw D h' tk', J n 0 ys nw → Fr h₀ L h' m → News h₀ L h' ((D, lst ys) :: nw) → Off1 D nw → Q (.ref D) { s with heap := h', toks := tk' })
    (h : wpAny (model prog w) A (eval i1 env) (SrcRR h₀ L m s n (fun _ news => J 0 0 [] news)) E s)
    (hs : ∀ x, foldedSetIterable i1 env x = pure x := by intro _; rfl)
    (ht1 : ∀ it v, letOwnedTupleGo (.Name x px) it v = pure () := by intro _ _; rfl) (ht2 : ∀ it v, letOwnedTupleGo (.Name x₂ px₂) it v = pure () := by intro _ _; rfl) (hs2 : ∀ env y, foldedSetIterable i2 env y = pure y := by intro _ _; rfl) :
    wpAny (model prog w) A (eval (.ListComp elt [⟨.Name x px, i1, [], 0⟩, ⟨.Name x₂ px₂, i2, [], 0⟩] scope pos) env) Q E s := by
  rw [eval_ListComp]
  refine wpAny_comprehension_free (use := none) rfl hs hclos hkind hnames (wpAny_mono h (fun xv s₁ h₁ => ?_) fun _ _ e => e)
  obtain ⟨h1, tk1, news, r, t, u, v, rfl, rfl, F, N, hr, hJ⟩ := h₁
  obtain ⟨rs1, rs2, rs3⟩ := range_src hn
  refine wpAny_pyIter_range hr rs1 ?_
  rw [rs2]
  dsimp only
  generalize hh2 : h1.push _ = h2
  have up : ∀ b o, h1.get? b = some o → h2.get? b = some o := fun b o e => hh2 ▸ Heap.get?_push_of_some _ e
  have hst2 : IsRangeIter h2 h1.objs.size (0 + ((0 : Nat) : Int) * 1) ((n : Int) - ((0 : Nat) : Int)) 1 := by
    rw [← hh2]; show Heap.get? _ _ = _; simpa using Heap.get?_push_size _ rfl
  have hI₀ : h₀.get? h1.objs.size = none := next_is_new F
  have hIL : L ≠ h1.objs.size := Nat.ne_of_lt F.ns.lt
  have hIl : h1.objs.size < h2.objs.size := by rw [← hh2, Heap.size_push]; exact Nat.lt_succ_self _
  have offI : ∀ p ∈ news, p.1 ≠ h1.objs.size := fun p hp => Nat.ne_of_lt (Heap.lt_size (N p hp).1)
  generalize h1.objs.size = I at *
  have F2 : Fr h₀ L h2 m := F.keeps up
  have N2 : News h₀ L h2 news := N.grown up
  clear F N hh2 hr
  refine wpAny_newObj_type (wpAny_newFunctionEnv hcell (by intro y hy; simp at hy) (fun h₁ hns₁ hsb₁ => ?_) hkind)
  dsimp only at hns₁ hsb₁ ⊢
  generalize hH2 : h2.push { cls := .type "list", dict := none, data := .seq ([] : List Value).toArray } = H2 at hns₁ hsb₁ ⊢
  have hC : H2.objs.size = h2.objs.size + 1 := by rw [← hH2, Heap.size_push]
  have hDC : h2.objs.size ≠ H2.objs.size := by rw [hC]; exact Nat.ne_of_lt (Nat.lt_succ_self _)
  have below : ∀ b, b < h2.objs.size → b ≠ H2.objs.size ∧ b ≠ h2.objs.size := fun b hb => ⟨by rw [hC]; exact Nat.ne_of_lt (Nat.lt_succ_of_lt hb), Nat.ne_of_lt hb⟩
  have old : ∀ b o, h2.get? b = some o → h₁.get? b = some o := fun b o e => hsb₁.extBut b o (below b (Heap.lt_size e)).1 (Heap.get?_push_of_some _ (hH2 ▸ Heap.get?_push_of_some _ e))
  have hacc : h₁.get? h2.objs.size = some (lst []) := hsb₁.extBut _ _ hDC (Heap.get?_push_of_some _ (hH2 ▸ Heap.get?_push_size _ rfl))
  have fresh₀ : ∀ a, h2.objs.size ≤ a → h₀.get? a = none := fun a ha => by
    cases e : h₀.get? a with
    | none => rfl
    | some o' => exact absurd (Heap.lt_size (F2.keep a o' e)) (Nat.not_lt.mpr ha)
  have hD₀ : h₀.get? h2.objs.size = none := fresh₀ _ (Nat.le_refl _)
  have hC₀ : h₀.get? H2.objs.size = none := fresh₀ _ (by rw [hC]; exact Nat.le_succ _)
  have hLlt : L < h2.objs.size := F2.ns.lt
  have hlt : ∀ p ∈ news, p.1 < h2.objs.size := fun p hp => Heap.lt_size (N2 p hp).1
  have hst1 : IsRangeIter h₁ I (0 + ((0 : Nat) : Int) * 1) ((n : Int) - ((0 : Nat) : Int)) 1 := by
    obtain ⟨o, e⟩ := rangeIt_get hst2
    exact rangeIt_at hst2 e (old _ _ e)
  have loop := fun tk => RR_loop (prog := prog) (w := w) (A := A) (R := compPost (model prog w) A E none Q (.ref h2.objs.size) H2.objs.size) (s := s) (env := env) (scope := scope) (cl := cl) (pos := pos) (elt := elt) (i1 := i1) (i2 := i2) (px := px) (px₂ := px₂) (tk₁ := tk) n cnt J hh hkind hx hx₂ hxx hcnt hJl (Ne.symm hIL) (Ne.symm (below L hLlt).1) (Ne.symm (below L hLlt).2) (below I hIl).1 (below I hIl).2 (Ne.symm hDC) hI₀ hC₀ hD₀
    (fun i ys nw oI oC => inner i ys nw I _ _ oI oC) (fun i j ys nw I2 o2 oI oC => turn i j ys nw I2 I _ _ o2 oI oC) step hst1 (F2.keeps old) hns₁ (fun p hp => by
      rcases List.mem_cons.mp hp with rfl | hp
      · exact ⟨hacc, Ne.symm (below L hLlt).2, hD₀⟩
      · exact ⟨old _ _ (N2 p hp).1, (N2 p hp).2⟩) (fun p hp => ⟨offI p hp, (below _ (hlt p hp)).1, (below _ (hlt p hp)).2⟩) hJ
    (fun ys nw h' tk' m' hJ' F' hn' N' off' => ⟨m', hn', fun h'' hs'' => fin ys nw _ h'' tk' hJ' (F'.change hs'' (Ne.symm (below L hLlt).1) hC₀) (fun p hp => by
      refine ⟨hs''.extBut _ _ ?_ (N' p hp).1, (N' p hp).2⟩
      rcases List.mem_cons.mp hp with rfl | hp
      · exact hDC
      · exact (off' p hp).2.1) (by
      have go : ∀ l : List (Addr × Obj), (∀ p ∈ l, p.1 ≠ I ∧ p.1 ≠ H2.objs.size ∧ p.1 ≠ h2.objs.size) → Off1 h2.objs.size l := fun l => by
        induction l with
        | nil => intro _; trivial
        | cons p r ih => exact fun h => ⟨(h p (.head _)).2.2, ih fun q hq => h q (.tail _ hq)⟩
      exact go nw off')⟩) ht1 ht2 hs2
  exact codeAny_compStart_list (loop _) ((range_walks (prog := prog) (w := w) hh 0 n).self 0 _ _ _ hst1 (loop _))
end
end
section -- D4
set_option maxHeartbeats 1000000
/-- the tables are filled, their code objects in the ledger -/
structure WarmT (w : World) (tl : List (Addr × Obj)) (ps : Array Value) : Prop where
  wm : WarmIn w tl
  l : ∃ c, ps = lamPs w c ∧ LamN tl c
def ColdT (tl : List (Addr × Obj)) (ps : Array Value) : Prop := ps = #[] ∧ ∃ tl0, tl = coldl ++ tl0 ∧ ∀ p ∈ tl0, p.1 ≠ 37 ∧ p.1 ≠ 44
theorem LamN.sub {l l' : List (Addr × Obj)} {c : Addr} (x : LamN l c) (hs : ∀ p ∈ l, p ∈ l') : LamN l' c := let ⟨oc, vs, t, a, b⟩ := x; ⟨oc, vs, t, hs _ a, b⟩
theorem WarmT.sub {w : World} {l l' : List (Addr × Obj)} {ps : Array Value} (x : WarmT w l ps) (hs : ∀ p ∈ l, p ∈ l') : WarmT w l' ps := ⟨x.wm.sub hs, let ⟨c, a, b⟩ := x.l; ⟨c, a, b.sub hs⟩⟩
theorem dealt_L {w : World} {p : Program} {loose : List Str} {mean : ExcName → Option Value} {mg mb : Str → Option Value} {g₀ g : Heap} (G : Gd w p loose mean mg mb g₀)
   {dk : Addr} {cs : List Value} {ep : Nat} {np : Nat} {tp : Tok} (hp2 : 2 ≤ np) (hp4 : np ≤ 4) (hn : cs.length ≤ 20) (hn1 : 1 ≤ cs.length)
   {dp un : Nat} {fr : Option (List Env)} {gd : Option (List Code)} {s : Shared} {Q E : Value → Shared → Prop} {L : Addr} {m : Str → Option Value} {pre tl : List (Addr × Obj)} {ps : Array Value} (sg : Sub g₀ g)
   (F : Fr g L s.heap m) (N : News g L s.heap (pre ++ (65, tabObj ps) :: tl)) (hpre : ∀ p ∈ pre, p.1 ≠ 37 ∧ p.1 ≠ 44 ∧ p.1 ≠ 65) (htl : ∀ p ∈ tl, p.1 ≠ 65)
   (hd : s.heap.get? dk = some (listOf cs.toArray ep)) (hst : ColdT tl ps ∨ WarmT w tl ps)
   (hdp : dp + 300 < recursionLimit) (hun : un + 1500 < cLine)
   (hret : ∀ D its e tl' ps' h' tk', Fr g L h' m → News g L h' (pre ++ (65, tabObj ps') :: tl') → WarmT w tl' ps' → (∀ p ∈ tl, p.1 ≠ 37 → p.1 ≠ 44 → p ∈ tl') → (∀ p ∈ tl', p.1 = 37 ∨ p.1 = 44 ∨ p ∈ tl ∨ @LE.le Nat _ s.heap.objs.size p.1) →
     (D, listOf (its.map It.v).toArray e) ∈ tl' → SpotsL tl' its → its.map It.key = dealKeys np cs → Q (.ref D) { s with heap := h', toks := tk' }) :
   wpAny (model PySem.Challenge.rw_ph0093_01.row.prog w) (AA dp un fr gd) (call (.ref 68) [.ref dk, .int (np : Int) tp]) Q E s := by
  have n65 := N (65, tabObj ps) (List.mem_append_right _ (.head _))
  have hsub : Sub g₀ s.heap := fun b o e => F.keep b o (sg b o e)
  have fresh : ∀ {D : Addr}, @LE.le Nat _ s.heap.objs.size D → D ≠ L ∧ g.get? D = none := fun {D} hD => by
    have hLD : @LT.lt Nat _ L D := Nat.lt_of_lt_of_le F.ns.lt hD
    exact ⟨Nat.ne_of_gt hLD, Heap.get?_none_of_le (Nat.le_trans F.above (Nat.le_of_lt hLD))⟩
  rcases hst with ⟨rfl, tl0, rfl, h0⟩ | hw
  · have n37 := N (37, tabObj #[]) (List.mem_append_right _ (.tail _ (.head _)))
    have n44 := N (44, tabObj #[]) (List.mem_append_right _ (.tail _ (.tail _ (.head _))))
    refine dealt_T G (imm := coldl) hp2 hp4 hn hsub hd n65.1 (.inl rfl) ?_ ?_ ?_ (.inl rfl) hdp hun hn1 ?_
    · exact List.forall_mem_cons.mpr ⟨n37.1, List.forall_mem_cons.mpr ⟨n44.1, fun _ h => nomatch h⟩⟩
    · exact List.forall_mem_cons.mpr ⟨G.n1, List.forall_mem_cons.mpr ⟨G.n2, fun _ h => nomatch h⟩⟩
    · have ne : ∀ {a : Addr}, s.heap.get? a = some (tabObj #[]) → a ≠ dk := fun e q => by
        rw [q, hd] at e
        have := congrArg Obj.data (Option.some.inj e)
        cases this
      exact List.forall_mem_cons.mpr ⟨ne n37.1, List.forall_mem_cons.mpr ⟨ne n44.1, fun _ h => nomatch h⟩⟩
    · intro D its e new c h' tk' kb hnew hadd hwarm e65 hlam hD hsp hk
      have F2 := fr_kb F kb (by
        simp only [List.map_cons, List.map_nil, List.mem_cons, List.not_mem_nil, or_false, not_or]
        exact ⟨Ne.symm n65.2.1, Ne.symm n37.2.1, Ne.symm n44.2.1⟩) (by
        simp only [List.map_cons, List.map_nil, List.forall_mem_cons, List.not_mem_nil, false_imp_iff, implies_true, and_true]; exact ⟨n65.2.2, n37.2.2, n44.2.2⟩)
      have hlam' : LamN new c := hlam.elim (fun x => x.2) fun e => (lamPs_ne e.symm).elim
      refine hret D its e (new ++ tl0) (lamPs w c) h' tk' F2 ?_ ⟨(hwarm rfl).sub fun p hp => List.mem_append_left _ hp, c, rfl, hlam'.sub fun p hp => List.mem_append_left _ hp⟩ ?_ ?_ (List.mem_append_left _ hD) (fun x hx => (hsp x hx).sub fun p hp => List.mem_append_left _ hp) hk
      · intro p hp
        have keep : ∀ q ∈ pre ++ (65, tabObj #[]) :: (coldl ++ tl0), q.1 ≠ 37 → q.1 ≠ 44 → q.1 ≠ 65 → h'.get? q.1 = some q.2 ∧ q.1 ≠ L ∧ g.get? q.1 = none := fun q hq a1 a2 a3 => by
          have := N q hq
          exact ⟨kb _ _ (by simp only [List.map_cons, List.map_nil, List.mem_cons, List.not_mem_nil, or_false, not_or]; exact ⟨a3, a1, a2⟩) this.1, this.2⟩
        rcases List.mem_append.mp hp with hp | hp
        · exact keep p (List.mem_append_left _ hp) (hpre p hp).1 (hpre p hp).2.1 (hpre p hp).2.2
        · rcases List.mem_cons.mp hp with rfl | hp
          · exact ⟨e65, n65.2⟩
          · rcases List.mem_append.mp hp with hp | hp
            · rcases hadd p hp with ⟨q, hq, e⟩ | h
              · refine ⟨hnew p hp, ?_⟩
                simp only [List.mem_cons, List.not_mem_nil, or_false] at hq
                rcases hq with rfl | rfl
                · rw [← e]; exact n37.2
                · rw [← e]; exact n44.2
              · exact ⟨hnew p hp, fresh h⟩
            · exact keep p (List.mem_append_right _ (.tail _ (List.mem_append_right _ hp))) (h0 p hp).1 (h0 p hp).2 (htl p (List.mem_append_right _ hp))
      · intro p hp a1 a2
        rcases List.mem_append.mp hp with hp | hp
        · simp only [List.mem_cons, List.not_mem_nil, or_false] at hp
          rcases hp with rfl | rfl
          · exact absurd rfl a1
          · exact absurd rfl a2
        · exact List.mem_append_right _ hp
      · intro p hp
        rcases List.mem_append.mp hp with hp | hp
        · rcases hadd p hp with ⟨q, hq, e⟩ | h
          · simp only [List.mem_cons, List.not_mem_nil, or_false] at hq
            rcases hq with rfl | rfl
            · exact .inl e.symm
            · exact .inr (.inl e.symm)
          · exact .inr (.inr (.inr h))
        · exact .inr (.inr (.inl (List.mem_append_right _ hp)))
  · have hwh : Warm w s.heap := hw.wm.warm fun p hp => N p (List.mem_append_right _ (.tail _ hp))
    obtain ⟨c0, rfl, hc0⟩ := hw.l
    have hcr : s.heap.CodeRec (.ref c0) lamQ := let ⟨oc, vs, t, a, d, e⟩ := hc0; ⟨c0, oc, vs, t, rfl, (N _ (List.mem_append_right _ (.tail _ a))).1, d, e⟩
    refine dealt_T G (imm := []) hp2 hp4 hn hsub hd n65.1 (.inr ⟨c0, rfl, hcr⟩) (fun _ h => nomatch h) (fun _ h => nomatch h) (fun _ h => nomatch h) (.inr ⟨rfl, hwh⟩) hdp hun hn1 ?_
    intro D its e new c h' tk' kb hnew hadd _ e65 hlam hD hsp hk
    have F2 := fr_kb F kb (by
        simp only [List.map_cons, List.map_nil, List.mem_cons, List.not_mem_nil, or_false, not_or]
        exact Ne.symm n65.2.1) (by
        simp only [List.map_cons, List.map_nil, List.forall_mem_cons, List.not_mem_nil, false_imp_iff, implies_true, and_true]; exact n65.2.2)
    have ec : lamPs w c0 = lamPs w c := hlam.elim (fun x => (lamPs_ne x.1).elim) id
    rw [← ec] at e65
    refine hret D its e (new ++ tl) (lamPs w c0) h' tk' F2 ?_ ⟨hw.wm.sub fun p hp => List.mem_append_right _ hp, c0, rfl, hc0.sub fun p hp => List.mem_append_right _ hp⟩ ?_ ?_ (List.mem_append_left _ hD) (fun x hx => (hsp x hx).sub fun p hp => List.mem_append_left _ hp) hk
    · intro p hp
      have keep : ∀ q ∈ pre ++ (65, tabObj (lamPs w c0)) :: tl, q.1 ≠ 65 → h'.get? q.1 = some q.2 ∧ q.1 ≠ L ∧ g.get? q.1 = none := fun q hq a3 => by
        have := N q hq
        exact ⟨kb _ _ (by simp only [List.map_cons, List.map_nil, List.mem_cons, List.not_mem_nil, or_false]; exact a3) this.1, this.2⟩
      rcases List.mem_append.mp hp with hp | hp
      · exact keep p (List.mem_append_left _ hp) (hpre p hp).2.2
      · rcases List.mem_cons.mp hp with rfl | hp
        · exact ⟨e65, n65.2⟩
        · rcases List.mem_append.mp hp with hp | hp
          · rcases hadd p hp with ⟨q, hq, e⟩ | h
            · cases hq
            · exact ⟨hnew p hp, fresh h⟩
          · exact keep p (List.mem_append_right _ (.tail _ hp)) (htl p hp)
    · intro p hp _ _
      exact List.mem_append_right _ hp
    · intro p hp
      rcases List.mem_append.mp hp with hp | hp
      · rcases hadd p hp with ⟨q, hq, e⟩ | h
        · cases hq
        · exact .inr (.inr (.inr h))
      · exact .inr (.inr (.inl hp))
end
section -- P1
/-- the places of the deck in the order in which they are dealt -/
def dealN (np : Nat) (l : List Nat) : Nat → List Nat × List Nat
  | 0 => ([], l)
  | i + 1 => ((dealN np l i).1 ++ (dealN np l i).2.filter (fun j => j % np == i), (dealN np l i).2.filter (fun j => !(j % np == i)))
def dealPerm (np n : Nat) : List Nat := (dealN np (List.range n) (np - 1)).1 ++ (dealN np (List.range n) (np - 1)).2
def permAt (np n : Nat) : Nat → List Nat
  | 0 => List.range n
  | k + 1 => (dealPerm np n).map fun j => (permAt np n k).getD j 0
def sizesOf (np sh bs : Nat) : List Nat := List.replicate (np - 1) (bs + sh) ++ [bs]
def sizeOf' (np sh bs : Nat) : Nat := (bs + sh) * (np - 1) + bs
def aroundOf (np sh bs : Nat) : Nat := sizeOf' np sh bs - 1 + sh
def toldOf (np sh bs : Nat) : List (Nat × Nat) := (List.range np).flatMap fun pile => (List.range ((sizesOf np sh bs).getD pile 0)).map fun turn => (turn, pile)
def dueOf (np sh bs k : Nat) : List Nat := (List.range (aroundOf np sh bs)).map fun p => (p * np ^ k) % aroundOf np sh bs
def backOf (np sh bs k : Nat) : Bool := np ^ k % aroundOf np sh bs == 1 % aroundOf np sh bs
def chkStep (np sh bs k : Nat) : Bool :=
  permAt np (sizeOf' np sh bs) (k + 1) == dueOf np sh bs (k + 1) ++ (List.range (sizeOf' np sh bs)).drop (aroundOf np sh bs) &&
  ((permAt np (sizeOf' np sh bs) (k + 1) == List.range (sizeOf' np sh bs)) == backOf np sh bs (k + 1))
def chk (np sh bs : Nat) : Bool :=
  (dealPerm np (sizeOf' np sh bs)).map (fun j => (j / np, j % np)) == toldOf np sh bs &&
  (List.range (sizeOf' np sh bs)).all (fun k => chkStep np sh bs k) &&
  (List.range (sizeOf' np sh bs)).any (fun k => backOf np sh bs (k + 1)) &&
  (dealPerm np (sizeOf' np sh bs)).all (fun j => decide (j < sizeOf' np sh bs)) && ((dealPerm np (sizeOf' np sh bs)).length == sizeOf' np sh bs)
theorem chk_all : ([2, 3, 4] : List Nat).all (fun np => ([0, 1] : List Nat).all fun sh => ([2, 3] : List Nat).all fun bs => chk np sh bs) = true := by decide +kernel
theorem chk_of {np sh bs : Nat} (h1 : 2 ≤ np) (h2 : np ≤ 4) (h3 : sh ≤ 1) (h4 : 2 ≤ bs) (h5 : bs ≤ 3) : chk np sh bs = true := by
  have h := chk_all
  simp only [List.all_eq_true] at h
  refine h np ?_ sh ?_ bs ?_
  · simp; omega
  · simp; omega
  · simp; omega
structure Chk (np sh bs : Nat) : Prop where
  told : (dealPerm np (sizeOf' np sh bs)).map (fun j => (j / np, j % np)) = toldOf np sh bs
  due : ∀ k, k < sizeOf' np sh bs → permAt np (sizeOf' np sh bs) (k + 1) = dueOf np sh bs (k + 1) ++ (List.range (sizeOf' np sh bs)).drop (aroundOf np sh bs)
  back : ∀ k, k < sizeOf' np sh bs → (permAt np (sizeOf' np sh bs) (k + 1) = List.range (sizeOf' np sh bs) ↔ backOf np sh bs (k + 1) = true)
  some : ∃ k, k < sizeOf' np sh bs ∧ backOf np sh bs (k + 1) = true
  lt : ∀ j ∈ dealPerm np (sizeOf' np sh bs), j < sizeOf' np sh bs
  len : (dealPerm np (sizeOf' np sh bs)).length = sizeOf' np sh bs
theorem chk_is {np sh bs : Nat} (h1 : 2 ≤ np) (h2 : np ≤ 4) (h3 : sh ≤ 1) (h4 : 2 ≤ bs) (h5 : bs ≤ 3) : Chk np sh bs := by
  have h := chk_of h1 h2 h3 h4 h5
  unfold chk at h
  simp only [Bool.and_eq_true, beq_iff_eq, List.all_eq_true, List.any_eq_true, List.mem_range, decide_eq_true_eq] at h
  obtain ⟨⟨⟨⟨a, b⟩, c⟩, d⟩, e⟩ := h
  refine ⟨a, fun k hk => ?_, fun k hk => ?_, c, d, e⟩
  · have := b k hk
    unfold chkStep at this
    simp only [Bool.and_eq_true, beq_iff_eq] at this
    exact this.1
  · have := b k hk
    unfold chkStep at this
    simp only [Bool.and_eq_true, beq_iff_eq] at this
    have h2 := this.2
    rw [← h2]
    simp
end
section -- C3
set_option maxHeartbeats 1000000
/-- a pair of ints as data -/
def pdat (p : Int × Int) : PyData := .tuple [.int p.1, .int p.2]
def pl (l : List (Int × Int)) : PyData := .list (l.map pdat)
theorem shaped_pl (l : List (Int × Int)) : SeqAt.shaped (pl l) = true := by
  have h1 : PyData.canLayAll0 (l.map pdat) = true := by
    induction l with
    | nil => rfl
    | cons a r ih => simp [PyData.canLayAll0, PyData.canLay0, pdat, ih]
  have h2 : PyData.depthAll (l.map pdat) ≤ 1 := by
    induction l with
    | nil => simp [PyData.depthAll]
    | cons a r ih =>
      have := ih (by simp only [List.map_cons, PyData.canLayAll0, Bool.and_eq_true] at h1; exact h1.2)
      simp only [List.map_cons, PyData.depthAll, pdat, PyData.depth]
      omega
  simp [SeqAt.shaped, pl, PyData.canLay0, PyData.depth, h1]
  omega
theorem eqv_pl (l l' : List (Int × Int)) : PyData.eqv (pl l) (pl l') = decide (l = l') := by
  have h : ∀ l l' : List (Int × Int), PyData.eqvAll (l.map pdat) (l'.map pdat) = decide (l = l') := by
    intro l
    induction l with
    | nil => intro l'; cases l' <;> simp [PyData.eqvAll]
    | cons a r ih =>
      intro l'
      cases l' with
      | nil => simp [PyData.eqvAll]
      | cons b t =>
        obtain ⟨a1, a2⟩ := a
        obtain ⟨b1, b2⟩ := b
        simp only [List.map_cons, PyData.eqvAll, ih t, pdat, PyData.eqv]
        by_cases q1 : a1 = b1 <;> by_cases q2 : a2 = b2 <;> by_cases q3 : r = t <;> simp [q1, q2, q3]
  simp only [pl, PyData.eqv, h]
def PairL (nl : List (Addr × Obj)) (v : Value) (p : Int × Int) : Prop := ∃ T c t1 t2, v = .ref T ∧ (T, tupO [.int p.1 t1, .int p.2 t2] c) ∈ nl
theorem PairL.sub {l l' : List (Addr × Obj)} {v : Value} {p : Int × Int} (x : PairL l v p) (hs : ∀ p ∈ l, p ∈ l') : PairL l' v p := let ⟨T, c, t1, t2, e, a⟩ := x; ⟨T, c, t1, t2, e, hs _ a⟩
abbrev Prs (nl : List (Addr × Obj)) (vs : List Value) (ps : List (Int × Int)) : Prop := Paired (PairL nl) vs ps
theorem prs_sub {l l' : List (Addr × Obj)} (hs : ∀ p ∈ l, p ∈ l') : ∀ {vs : List Value} {ps : List (Int × Int)}, Prs l vs ps → Prs l' vs ps
  | _, _, .nil => .nil
  | _, _, .cons h t => .cons (h.sub hs) (prs_sub hs t)
theorem prs_map {α : Type} {l : List (Addr × Obj)} {f : α → Value} {g : α → Int × Int} : ∀ {xs : List α}, (∀ x ∈ xs, PairL l (f x) (g x)) → Prs l (xs.map f) (xs.map g)
  | [], _ => .nil
  | x :: xs, h => .cons (h x (.head _)) (prs_map fun y hy => h y (.tail _ hy))
theorem prs_get {l : List (Addr × Obj)} : ∀ {vs : List Value} {ps : List (Int × Int)}, Prs l vs ps → ∀ {i : Nat} {p : Int × Int}, ps[i]? = some p → PairL l (vs.getD i .none) p
  | _, _, .nil, i, p, h => by simp at h
  | _, _, .cons (b := b) a t, 0, p, h => by simp at h; subst h; exact a
  | _, _, .cons a t, i + 1, p, h => by simp at h; simpa using prs_get t h
theorem reads_prs {g h : Heap} {L : Addr} {nl : List (Addr × Obj)} (N : News g L h nl) : ∀ {vs : List Value} {ps : List (Int × Int)}, Prs nl vs ps → ReadsAll h vs (ps.map pdat) []
  | _, _, .nil => .nil
  | _, _, .cons x t => by
    obtain ⟨T, c, t1, t2, rfl, hm⟩ := x
    exact .cons (as := []) (reads_tuple_at (N _ hm).1 rfl rfl (.cons (as := []) (.int _ _) (.cons (as := []) (.int _ _) .nil))) (reads_prs N t)
theorem reads_pl {g h : Heap} {L a : Addr} {nl : List (Addr × Obj)} {e : Nat} {vs : List Value} {ps : List (Int × Int)} (N : News g L h nl) (x : Prs nl vs ps) (ha : (a, listOf vs.toArray e) ∈ nl) : Reads h (.ref a) (pl ps) [a] :=
  reads_list_at (N _ ha).1 rfl rfl (by simpa using reads_prs N x)
section
variable {prog : Program} {w : World} {A : Around} {E : Value → Shared → Prop} {s : Shared} {g : Heap} {L a b : Addr} {nl : List (Addr × Obj)} {e1 e2 : Nat} {vs ws : List Value} {ps qs : List (Int × Int)} {Q : Value → Shared → Prop}
theorem ne_prs (N : News g L s.heap nl) (x : Prs nl vs ps) (y : Prs nl ws qs) (ha : (a, listOf vs.toArray e1) ∈ nl) (hb : (b, listOf ws.toArray e2) ∈ nl) (hu : A.units + 64 < cLine) (h : Q (.bool (!decide (ps = qs))) s) :
    wpAny (model prog w) A (compareOp .NotEq (.ref a) (.ref b)) Q E s :=
  ne_dataH (reads_pl N x ha) (reads_pl N y hb) (shaped_pl _) (shaped_pl _) hu (by rw [eqv_pl]; exact h)
theorem eq_prs (N : News g L s.heap nl) (x : Prs nl vs ps) (y : Prs nl ws qs) (ha : (a, listOf vs.toArray e1) ∈ nl) (hb : (b, listOf ws.toArray e2) ∈ nl) (hu : A.units + 64 < cLine) (h : Q (.bool (decide (ps = qs))) s) :
    wpAny (model prog w) A (compareOp .Eq (.ref a) (.ref b)) Q E s :=
  eq_dataH (reads_pl N x ha) (reads_pl N y hb) (shaped_pl _) (shaped_pl _) hu (by rw [eqv_pl]; exact h)
end
open LCg LCp in
theorem compRestP_inv {prog : Program} {w : World} {A : Around} {h₀ : Heap} {L : Addr} {m : Str → Option Value} {env : Env} {elt : Expr} {x x₂ : Str} {scope : Scope} {cl : List (Str × Addr)} {s : Shared} {S : List (Addr × Obj) → Prop} {P : Nat → Value → Prop}
    {Fin : List Value → List (Addr × Obj) → Prop} (n : Nat) (J : Nat → List Value → List (Addr × Obj) → Prop)
    (turn : ∀ i ys news v, i < n → J i ys news → P i v → ∃ (t : Addr) (ot : Obj) (v₁ v₂ : Value) (nt : Nat), v = .ref t ∧ (t, ot) ∈ news ∧ ot.cls = .type "tuple" ∧ ot.data = .seq #[v₁, v₂] nt ∧
      ∀ I oI C oC D m₂ h tk (E' : Value → Shared → Prop), NsObj oC m₂ → m₂ x = some v₁ → m₂ x₂ = some v₂ → Fr h₀ L h m → News h₀ L h ((I, oI) :: (C, oC) :: (D, lst ys) :: news) → (∀ p ∈ news, p.1 ≠ I ∧ p.1 ≠ C ∧ p.1 ≠ D) →
      wpAny (model prog w) A (eval elt (compEnvC scope cl C env)) (EltP h₀ L m s I oI C oC D (lst ys) S (fun y news' => J (i + 1) (ys ++ [y]) news')) E' { s with heap := h, toks := tk })
    (fin : ∀ ys news, J n ys news → Fin ys news) : ∀ (k i : Nat) (ys : List Value) (news : List (Addr × Obj)), i + k = n → J i ys news → CompRestP prog w A h₀ L m env elt x x₂ scope cl s S P Fin k i ys news
  | 0, i, ys, news, e, hJ => by
    have : i = n := by omega
    subst this
    exact fin ys news hJ
  | k + 1, i, ys, news, e, hJ => by
    refine CompRestP.succ fun v hP => ?_
    obtain ⟨t, ot, v₁, v₂, nt, hv, hm, hc, hd, hturn⟩ := turn i ys news v (by omega) hJ hP
    refine ⟨t, ot, v₁, v₂, nt, hv, hm, hc, hd, fun I oI C oC D m₂ h tk E' hC hx hx2 F N off ne => ?_⟩
    refine wpAny_mono (hturn I oI C oC D m₂ h tk E' hC hx hx2 F N (Off3.mem off)) (fun y s₂ hq => ?_) fun _ _ z => z
    obtain ⟨h', tk', news', rfl, F', N', off', hS, hJ'⟩ := hq
    exact ⟨h', tk', news', rfl, F', N', Off3.of off', hS, compRestP_inv n J turn fin k (i + 1) (ys ++ [y]) news' (by omega) hJ'⟩
/-- the walk is to stop here -/
def Stop (p : Prop) : Prop := p
theorem stop_intro {p : Prop} (h : Stop p) : p := h
theorem chain1 {m : Str → Option Value} {k1 : Str} {v1 : Option Value} (h1 : m k1 = v1) : m = fun y => if y = k1 then v1 else m y := by
  funext y
  by_cases e1 : y = k1
  · rw [if_pos e1, e1, h1]
  rw [if_neg e1]
end
section -- E1
set_option maxHeartbeats 1000000
structure LLit where
  scope : Scope
  s1 : Stmt
  s2 : Stmt
  s3 : Stmt
  s4 : Stmt
  s5 : Stmt
  s6 : Stmt
  s7 : Stmt
  s8 : Stmt
  s9 : Stmt
  tgt : Expr
  iter : Expr
  fpos : Pos
  b1 : Stmt
  b2 : Stmt
  b3 : Stmt
  b4 : Stmt
  b5 : Stmt
  b6 : Stmt
  b7 : Stmt
  b8 : Stmt
  b9 : Stmt
  rest : List Stmt
def lawLit (P : Params) : { q : LLit // ∃ oc od name qual params dV kV doc pm an cdv ct osl, (hd.heap_39 P).lookup 73 = some ⟨oc, od, .func (fnOf name qual params (q.s1 :: q.s2 :: q.s3 :: q.s4 :: q.s5 :: q.s6 :: q.s7 :: q.s8 :: q.s9 :: .For q.tgt q.iter [q.b1, q.b2, q.b3, q.b4, q.b5, q.b6, q.b7, q.b8, q.b9] [] q.fpos :: q.rest) q.scope dV kV doc pm an cdv ct), osl⟩ } := 
  ⟨⟨_, _, _, _, _, _, _, _, _, _, _, _, _, _, _, _, _, _, _, _, _, _, _⟩, _, _, _, _, _, _, _, _, _, _, _, _, _, rfl⟩
abbrev lEnv (P : Params) (L fa : Addr) (cd : Value) : Env := envOfC (Str.ofString "law") (lawLit P).1.scope L fa cd
def toldZ (np : Nat) (sizes : List Nat) : List (Int × Int) := (List.range np).flatMap fun (pile : Nat) => (List.range (sizes.getD pile 0)).map fun (turn : Nat) => ((turn : Int), (pile : Int))
local macro_rules | `(tactic| walk_at "eval ListComp") => `(tactic| (refine stop_intro ?_))
local macro_rules | `(tactic| walk_at "compareOp NotEq ref ref") => `(tactic| (refine stop_intro ?_))
theorem T_b {w : World} {p : Program} {loose : List Str} {mean : ExcName → Option Value} {mg mb : Str → Option Value} {g₀ g : Heap} (G : Gd w p loose mean mg mb g₀) (sg : Sub g₀ g)
   {L fa : Addr} {cd : Value} {np : Nat} {tp : Tok} {D zA fA : Addr} {e ez ef : Nat} {oP oF oC oA oZ : Obj} {ps : Array Value} {zs fs : List Value} {sizes : List Nat} {its : List It} {tl : List (Addr × Obj)} {m : Str → Option Value}
   {dp un : Nat} {fr : Option (List Env)} {gd : Option (List Code)} {s : Shared} {E : Value → Shared → Prop} {Q : Flow → Shared → Prop}
   (F : Fr g L s.heap m) (hmd : m (Str.ofString "dealt") = some (.ref D)) (hmp : m (Str.ofString "piles") = some (.int (np : Int) tp))
   (N : News g L s.heap ((L + 1 + 1 + 1 + 1 + 1, oP) :: (L + 1 + 1 + 1 + 1, oF) :: (L + 1 + 1 + 1, oC) :: (L + 1 + 1, oA) :: (L + 1, oZ) :: (zA, listOf zs.toArray ez) :: (fA, listOf fs.toArray ef) :: (65, tabObj ps) :: tl))
   (hoZ : oZ.data = .cell (some (.ref zA))) (hD : (D, listOf (its.map It.v).toArray e) ∈ tl) (hsp : SpotsL tl its) (hlen : its.length ≤ 20) (hzs : IntsAre zs (sizes.map fun (n : Nat) => (n : Int))) (hsz : sizes.length = np) (hnp : np ≤ 4) (hs4 : ∀ n ∈ sizes, n ≤ 4)
   (hk : its.map (fun i => (i.q, i.r)) = toldZ np sizes)
   (hdp : dp + 300 < recursionLimit) (hun : un + 1500 < cLine)
   (hret : ∀ h' tk', Fr g L h' m → News g L h' ((L + 1 + 1 + 1 + 1 + 1, oP) :: (L + 1 + 1 + 1 + 1, oF) :: (L + 1 + 1 + 1, oC) :: (L + 1 + 1, oA) :: (L + 1, oZ) :: (zA, listOf zs.toArray ez) :: (fA, listOf fs.toArray ef) :: (65, tabObj ps) :: tl) → Q .next { s with heap := h', toks := tk' }) :
   wpAny (model PySem.Challenge.rw_ph0093_01.row.prog w) ((AA dp un fr gd).deeper (lEnv w.params L fa cd)) (exec (lawLit w.params).1.b2 (lEnv w.params L fa cd)) Q E s := by
  have X := G.X
  have T := G.T
  revert X; k_fill; intro X
  have X' := X.keeps sg
  have T' := T.keeps sg
  have hmd' := chain2 hmd hmp
  have F0 := F
  rw [hmd'] at F
  dsimp only [lEnv, lawLit]
  change Fr g L s.heap _ at F
  clear F0
  (try k_fold)
  k_steps
  unfold Stop
  refine' LCp.ListComp_P F ?cl ?ce ?ki ?na ?hx ?hx2 ?hxx ?_
  (case cl => exact rfl)
  (case ce => decide)
  (case ki => exact rfl)
  (case na => decide)
  (case hx => exact rfl)
  (case hx2 => exact rfl)
  (case hxx => decide)
  k_steps
  rename Fr _ _ _ _ => F
  rename News _ _ _ _ => N
  refine LCp.SrcLP.ledger (its := (its.map It.v).toArray) rfl F N (.tail _ (.tail _ (.tail _ (.tail _ (.tail _ (.tail _ (.tail _ (.tail _ hD)))))))) (by rw [sizeLine_eq]; simp; omega) fun gg => ?_
  have hvl : (its.map It.v).toArray.size = its.length := by simp
  rw [hvl]
  refine compRestP_inv its.length (fun i ys nw => nw = (L + 1 + 1 + 1 + 1 + 1, oP) :: (L + 1 + 1 + 1 + 1, oF) :: (L + 1 + 1 + 1, oC) :: (L + 1 + 1, oA) :: (L + 1, oZ) :: (zA, listOf zs.toArray ez) :: (fA, listOf fs.toArray ef) :: (65, tabObj ps) :: tl ∧ Prs tl ys ((its.take i).map fun i => (i.q, i.r))) ?_ ?_ its.length 0 [] _ (by omega) ?_
  · rintro i ys nw v hi ⟨rfl, hys⟩ hP
    have hv : v = its[i].v := by
      have := hP
      simp only [List.getElem?_toArray, List.getElem?_map, List.getElem?_eq_getElem hi] at this
      exact (Option.some.inj this).symm
    obtain ⟨T1, T2, c1, c2, t1, t2, ev, m1, m2⟩ := hsp its[i] (List.getElem_mem hi)
    refine ⟨T1, _, .ref T2, its[i].card, c1, hv.trans ev, .tail _ (.tail _ (.tail _ (.tail _ (.tail _ (.tail _ (.tail _ (.tail _ m1))))))), rfl, rfl, ?_⟩
    intro I oI C oC' B m₂ h tk E' hC hx hx2 F8 N8 off8
    k_steps
    rename Fr _ _ _ _ => F9
    rename News _ _ _ _ => N9
    refine ⟨_, _, _, rfl, F9, N9, off8, .inr ⟨_, .tail _ (.tail _ (.tail _ (.tail _ (.tail _ (.tail _ (.tail _ (.tail _ hD))))))), rfl, _, rfl⟩, rfl, ?_⟩
    rw [List.take_add_one, List.getElem?_eq_getElem hi, List.map_append]
    exact hys.snoc ⟨T2, c2, t1, t2, rfl, m2⟩
  · rintro ys nw ⟨rfl, hys⟩
    intro B h8 tk8 F8 N8 off8
    rw [List.take_of_length_le (Nat.le_refl _)] at hys
    k_steps
    unfold Stop
    have hcnt4 : ∀ i, i < np → sizes.getD i 0 ≤ 4 := fun i hi => by
      rw [List.getD_eq_getElem?_getD, List.getElem?_eq_getElem (by omega)]
      exact hs4 _ (List.getElem_mem _)
    refine' ListComp_RR np (fun i => sizes.getD i 0) (fun i j ws nw => ∃ tl9, nw = (B, LCg.lst ys) :: (L + 1 + 1 + 1 + 1 + 1, oP) :: (L + 1 + 1 + 1 + 1, oF) :: (L + 1 + 1 + 1, oC) :: (L + 1 + 1, oA) :: (L + 1, oZ) :: (zA, listOf zs.toArray ez) :: (fA, listOf fs.toArray ef) :: (65, tabObj ps) :: tl9 ∧
      (∀ p ∈ tl, p ∈ tl9) ∧ ws.length ≤ 4 * i + j ∧ i ≤ np ∧ j ≤ 4 ∧ Prs tl9 ws (toldZ i sizes ++ (List.range j).map fun (turn : Nat) => ((turn : Int), (i : Int)))) F8 rfl ?cl ?ce ?ki ?na ?hx ?hx2 ?hxx (by omega) (fun i hi => by have := hcnt4 i hi; omega) ?_ ?_ ?_ ?_ ?_ ?_
    (case cl => exact rfl)
    (case ce => decide)
    (case ki => exact rfl)
    (case na => decide)
    (case hx => exact rfl)
    (case hx2 => exact rfl)
    (case hxx => decide)
    · rintro i j ws nw ⟨tl9, _, _, h1, h2, h3, _⟩
      omega
    · rintro i ws nw I C B2 oI oC' m₂ h tk E' t hi ⟨tl9, rfl, hs9, h1, h2, h3, hw⟩ hC hx F9 N9 off9
      simp only [List.cons_append, List.nil_append] at N9
      k_steps
      rename Fr _ _ _ _ => F10
      rename News _ _ _ _ => N10
      rename IsRange _ _ _ _ _ _ _ _ => hr
      have ez9 : (sizes.map fun (n : Nat) => (n : Int)).getD ((i : Int)).toNat 0 = ((sizes.getD i 0 : Nat) : Int) := by
        rw [Int.toNat_natCast, List.getD_eq_getElem?_getD, List.getElem?_map, List.getD_eq_getElem?_getD]
        cases sizes[i]? <;> rfl
      rw [ez9] at hr
      exact ⟨_, _, _, _, _, _, _, rfl, rfl, F10, N10, off9, ⟨tl9, rfl, hs9, h1, h2, h3, hw⟩, hr⟩
    · rintro i j ws nw I2 I C B2 o2 oI oC' m₂ h tk E' t t' hi hj ⟨tl9, rfl, hs9, h1, h2, h3, hw⟩ hC hx hx2 F9 N9 off9
      simp only [List.cons_append, List.nil_append] at N9
      k_steps
      rename Fr _ _ _ _ => F10
      rename News _ _ _ _ => N10
      rename_i T10 h10 l10
      refine ⟨_, _, (B, LCg.lst ys) :: (L + 1 + 1 + 1 + 1 + 1, oP) :: (L + 1 + 1 + 1 + 1, oF) :: (L + 1 + 1 + 1, oC) :: (L + 1 + 1, oA) :: (L + 1, oZ) :: (zA, listOf zs.toArray ez) :: (fA, listOf fs.toArray ef) :: (65, tabObj ps) :: (T10, tupO [.int (j : Int) t', .int (i : Int) t] 0) :: tl9, rfl, F10, news_sub N10 ?_, ?_, (T10, _) :: tl9, rfl, fun p hp => .tail _ (hs9 p hp), ?_, h2, ?_, ?_⟩
      · intro p hp
        exact mem_mid (pre := [_, _, _, _, _, _, _, _, _, _, _, _, _]) hp
      · intro p hp q hq
        have hp' := List.mem_cons.mp (mem_mid (pre := [_, _, _, _, _, _, _, _, _]) hp)
        rcases hp' with h | h
        · rw [h]; dsimp only
          simp only [List.mem_cons, List.not_mem_nil, or_false] at hq
          rcases hq with rfl | rfl | rfl | rfl <;> exact neN (by dsimp only; omega)
        · exact off9 p h q hq
      · rw [List.length_append, List.length_singleton]; omega
      · have := hcnt4 i hi; omega
      · rw [List.range_succ, List.map_append, ← List.append_assoc]
        exact (prs_sub (fun p hp => .tail _ hp) hw).snoc ⟨T10, 0, t', t, rfl, .head _⟩
    · rintro i ws nw hi ⟨tl9, rfl, hs9, h1, h2, h3, hw⟩
      have := hcnt4 i hi
      refine ⟨tl9, rfl, hs9, by omega, by omega, by omega, ?_⟩
      have e : toldZ (i + 1) sizes = toldZ i sizes ++ (List.range (sizes.getD i 0)).map fun (turn : Nat) => ((turn : Int), (i : Int)) := by
        unfold toldZ
        rw [List.range_succ, List.flatMap_append]
        simp
      rw [e]
      simpa using hw
    · rintro ws nw B2 h9 tk9 ⟨tl9, rfl, hs9, h1, h2, h3, hw⟩ F9 N9 off9
      k_steps
      unfold Stop
      refine ne_prs (nl := (B2, LCg.lst ws) :: (B, LCg.lst ys) :: (L + 1 + 1 + 1 + 1 + 1, oP) :: (L + 1 + 1 + 1 + 1, oF) :: (L + 1 + 1 + 1, oC) :: (L + 1 + 1, oA) :: (L + 1, oZ) :: (zA, listOf zs.toArray ez) :: (fA, listOf fs.toArray ef) :: (65, tabObj ps) :: tl9) N9 (prs_sub (fun p hp => ?_) hys) (prs_sub (fun p hp => ?_) hw) (.tail _ (.head _)) (.head _) (by ktr_units) ?_
      · exact List.mem_append_right [_, _, _, _, _, _, _, _, _, _] (hs9 p hp)
      · exact List.mem_append_right [_, _, _, _, _, _, _, _, _, _] hp
      have e9 : (!decide (its.map (fun i => (i.q, i.r)) = toldZ np sizes ++ (List.range 0).map fun (turn : Nat) => ((turn : Int), (np : Int)))) = false := by
        rw [hk]; simp
      rw [e9]
      k_steps
      dsimp only
      rename Fr _ _ _ _ => F11
      rename News _ _ _ _ => N11
      rw [← hmd'] at F11
      refine hret _ _ F11 (news_sub N11 fun p hp => ?_)
      rcases mem_or (s := [_, _, _, _, _, _, _, _]) hp with h | h
      · exact .tail _ (.tail _ (List.mem_append_left _ h))
      · exact List.mem_append_right [_, _, _, _, _, _, _, _, _, _] (hs9 p h)
    · k_steps
      rename Fr _ _ _ _ => F10
      rename News _ _ _ _ => N10
      rename IsRange _ _ _ _ _ _ _ _ => hr
      exact ⟨_, _, _, _, _, _, _, rfl, rfl, F10, N10, hr, ⟨tl, rfl, fun _ h => h, by simp, by omega, by omega, by simpa [toldZ] using Paired.nil⟩⟩
  · exact ⟨rfl, by simpa using Paired.nil⟩
end
section -- E2
set_option maxHeartbeats 1000000
theorem off1_mem {D : Addr} {l : List (Addr × Obj)} (h : LCg.Off1 D l) : ∀ p ∈ l, @Ne Nat p.1 D := by
  induction l with
  | nil => intro p hp; cases hp
  | cons a r ih =>
    intro p hp
    rcases List.mem_cons.mp hp with e | e
    · rw [e]; exact h.1
    · exact ih h.2 p e
theorem T_c {w : World} {p : Program} {loose : List Str} {mean : ExcName → Option Value} {mg mb : Str → Option Value} {g₀ g : Heap} (G : Gd w p loose mean mg mb g₀) (sg : Sub g₀ g)
   {L fa : Addr} {cd : Value} {D zA fA : Addr} {e ez ef : Nat} {oP oF oC oA oZ : Obj} {ps : Array Value} {zs fs : List Value} {its : List It} {tl : List (Addr × Obj)} {m : Str → Option Value}
   {dp un : Nat} {fr : Option (List Env)} {gd : Option (List Code)} {s : Shared} {E : Value → Shared → Prop} {Q : Flow → Shared → Prop}
   (F : Fr g L s.heap m) (hmd : m (Str.ofString "dealt") = some (.ref D))
   (N : News g L s.heap ((L + 1 + 1 + 1 + 1 + 1, oP) :: (L + 1 + 1 + 1 + 1, oF) :: (L + 1 + 1 + 1, oC) :: (L + 1 + 1, oA) :: (L + 1, oZ) :: (zA, listOf zs.toArray ez) :: (fA, listOf fs.toArray ef) :: (65, tabObj ps) :: tl))
   (hD : (D, listOf (its.map It.v).toArray e) ∈ tl) (hsp : SpotsL tl its) (hlen : its.length ≤ 20)
   (hdp : dp + 300 < recursionLimit) (hun : un + 1500 < cLine)
   (hret : ∀ D2 h' tk', Fr g L h' (fun y => if y = Str.ofString "deck" then some (.ref D2) else m y) → News g L h' ((L + 1 + 1 + 1 + 1 + 1, oP) :: (L + 1 + 1 + 1 + 1, oF) :: (L + 1 + 1 + 1, oC) :: (L + 1 + 1, oA) :: (L + 1, oZ) :: (zA, listOf zs.toArray ez) :: (fA, listOf fs.toArray ef) :: (65, tabObj ps) :: (D2, listOf (its.map It.card).toArray its.length) :: tl) →
     @Ne Nat D2 65 → @Ne Nat D2 (L + 1 + 1 + 1 + 1 + 1) → Q .next { s with heap := h', toks := tk' }) :
   wpAny (model PySem.Challenge.rw_ph0093_01.row.prog w) ((AA dp un fr gd).deeper (lEnv w.params L fa cd)) (exec (lawLit w.params).1.b3 (lEnv w.params L fa cd)) Q E s := by
  have X := G.X
  have T := G.T
  revert X; k_fill; intro X
  have X' := X.keeps sg
  have T' := T.keeps sg
  have hmd' := chain1 hmd
  have F0 := F
  rw [hmd'] at F
  dsimp only [lEnv, lawLit]
  change Fr g L s.heap _ at F
  clear F0
  (try k_fold)
  refine' LCp.Assign_ListComp_P F rfl ?sw ?cl ?ce ?ki ?na ?hx ?hx2 ?hxx ?hy ?hp ?_
  (case sw => exact rfl)
  (case cl => exact rfl)
  (case ce => decide)
  (case ki => exact rfl)
  (case na => decide)
  (case hx => exact rfl)
  (case hx2 => exact rfl)
  (case hxx => decide)
  (case hy => exact rfl)
  (case hp => exact rfl)
  k_steps
  rename Fr _ _ _ _ => F
  rename News _ _ _ _ => N
  refine LCp.SrcLP.ledger (its := (its.map It.v).toArray) rfl F N (.tail _ (.tail _ (.tail _ (.tail _ (.tail _ (.tail _ (.tail _ (.tail _ hD)))))))) (by rw [sizeLine_eq]; simp; omega) fun gg => ?_
  have hvl : (its.map It.v).toArray.size = its.length := by simp
  rw [hvl]
  refine compRestP_inv its.length (fun i ys nw => nw = (L + 1 + 1 + 1 + 1 + 1, oP) :: (L + 1 + 1 + 1 + 1, oF) :: (L + 1 + 1 + 1, oC) :: (L + 1 + 1, oA) :: (L + 1, oZ) :: (zA, listOf zs.toArray ez) :: (fA, listOf fs.toArray ef) :: (65, tabObj ps) :: tl ∧ ys = (its.take i).map It.card) ?_ ?_ its.length 0 [] _ (by omega) ⟨rfl, rfl⟩
  · rintro i ys nw v hi ⟨rfl, rfl⟩ hP
    have hv : v = its[i].v := by
      have := hP
      simp only [List.getElem?_toArray, List.getElem?_map, List.getElem?_eq_getElem hi] at this
      exact (Option.some.inj this).symm
    obtain ⟨T1, T2, c1, c2, t1, t2, ev, m1, m2⟩ := hsp its[i] (List.getElem_mem hi)
    refine ⟨T1, _, .ref T2, its[i].card, c1, hv.trans ev, .tail _ (.tail _ (.tail _ (.tail _ (.tail _ (.tail _ (.tail _ (.tail _ m1))))))), rfl, rfl, ?_⟩
    intro I oI C oC' B m₂ h tk E' hC hx hx2 F8 N8 off8
    k_steps
    rename Fr _ _ _ _ => F9
    rename News _ _ _ _ => N9
    refine ⟨_, _, _, rfl, F9, N9, off8, .inr ⟨_, .tail _ (.tail _ (.tail _ (.tail _ (.tail _ (.tail _ (.tail _ (.tail _ hD))))))), rfl, _, rfl⟩, rfl, ?_⟩
    rw [List.take_add_one, List.getElem?_eq_getElem hi, List.map_append]
    rfl
  · rintro ys nw ⟨rfl, rfl⟩
    intro B h8 tk8 F8 N8 off8
    rw [← hmd'] at F8
    rw [List.take_of_length_le (Nat.le_refl _), lst_eq (List.length_map _)] at N8
    have o := off1_mem off8
    refine hret B h8 tk8 F8 (news_sub N8 fun p hp => ?_) (Ne.symm (o _ (.tail _ (.tail _ (.tail _ (.tail _ (.tail _ (.tail _ (.tail _ (.head _))))))))))  (Ne.symm (o _ (.head _)))
    exact mem_mid (pre := [_, _, _, _, _, _, _, _]) hp
end
section -- E3
set_option maxHeartbeats 1000000
local macro_rules | `(tactic| k_all) => `(tactic| assumption)
theorem warmIn_ne {w : World} (x : WarmIn w coldl) : False := by
  obtain ⟨c1, c2, oc1, oc2, a, _⟩ := x
  simp at a
def TlOff (L : Addr) (tl : List (Addr × Obj)) : Prop := ∀ p ∈ tl, @Ne Nat p.1 65 ∧ @Ne Nat p.1 (L + 1 + 1 + 1 + 1 + 1)
theorem T_d {w : World} {p : Program} {loose : List Str} {mean : ExcName → Option Value} {mg mb : Str → Option Value} {g₀ g : Heap} (G : Gd w p loose mean mg mb g₀) (sg : Sub g₀ g)
   {L fa : Addr} {cd : Value} {zA fA : Addr} {ez ef : Nat} {oP oF oC oA oZ : Obj} {ps : Array Value} {zs fs : List Value} {tl : List (Addr × Obj)} {m : Str → Option Value}
   {dp un : Nat} {fr : Option (List Env)} {gd : Option (List Code)} {s : Shared} {E : Value → Shared → Prop} {Q : Flow → Shared → Prop}
   (hdp : dp + 300 < recursionLimit) (hun : un + 1500 < cLine)
   (F : Fr g L s.heap m) (N : News g L s.heap ((L + 1 + 1 + 1 + 1 + 1, oP) :: (L + 1 + 1 + 1 + 1, oF) :: (L + 1 + 1 + 1, oC) :: (L + 1 + 1, oA) :: (L + 1, oZ) :: (zA, listOf zs.toArray ez) :: (fA, listOf fs.toArray ef) :: (65, tabObj ps) :: tl))
   {np k : Nat} {tp td : Tok} {vP : Option Value} (hmp : m (Str.ofString "piles") = some (.int (np : Int) tp)) (hmk : m (Str.ofString "deals") = some (.int (1 + (k : Int)) td)) (hnp : np ≤ 4) (hk : k ≤ 20)
   (hoP : oP.data = .cell vP) (htl0 : TlOff L tl) (hzA : @Ne Nat zA (L + 1 + 1 + 1 + 1 + 1)) (hfA : @Ne Nat fA (L + 1 + 1 + 1 + 1 + 1)) (h65 : @LT.lt Nat _ 65 L)
   (hret : ∀ oP' t' h' tk', Fr g L h' m → News g L h' ((L + 1 + 1 + 1 + 1 + 1, oP') :: (L + 1 + 1 + 1 + 1, oF) :: (L + 1 + 1 + 1, oC) :: (L + 1 + 1, oA) :: (L + 1, oZ) :: (zA, listOf zs.toArray ez) :: (fA, listOf fs.toArray ef) :: (65, tabObj ps) :: tl) → oP'.data = .cell (some (.int ((np : Int) ^ (k + 1)) t')) → Q .next { s with heap := h', toks := tk' }) :
   wpAny (model PySem.Challenge.rw_ph0093_01.row.prog w) ((AA dp un fr gd).deeper (lEnv w.params L fa cd)) (exec (lawLit w.params).1.b4 (lEnv w.params L fa cd)) Q E s := by
  have X := G.X
  have T := G.T
  revert X; k_fill; intro X
  have X' := X.keeps sg
  have T' := T.keeps sg
  have hmd' := chain2 hmp hmk
  have F0 := F
  rw [hmd'] at F
  dsimp only [lEnv, lawLit]
  change Fr g L s.heap _ at F
  clear F0
  (try k_fold)
  have htl : ∀ p ∈ tl, p.1 ≠ L + 1 + 1 + 1 + 1 + 1 := fun p hp => (htl0 p hp).2
  k_steps
  rename Fr _ _ _ _ => F9
  rename News _ _ _ _ => N9
  rw [← hmd'] at F9
  rename_i h9
  have e9 : (1 + (k : Int)).toNat = k + 1 := by omega
  rw [e9] at h9
  exact hret _ _ _ _ F9 N9 h9
local macro_rules | `(tactic| walk_at "CompSrc") => `(tactic| (refine stop_intro ?_))
theorem T_e {w : World} {p : Program} {loose : List Str} {mean : ExcName → Option Value} {mg mb : Str → Option Value} {g₀ g : Heap} (G : Gd w p loose mean mg mb g₀) (sg : Sub g₀ g)
   {L fa : Addr} {cd : Value} {zA fA : Addr} {ez ef : Nat} {oP oF oC oA oZ : Obj} {ps : Array Value} {zs fs : List Value} {tl : List (Addr × Obj)} {m : Str → Option Value}
   {dp un : Nat} {fr : Option (List Env)} {gd : Option (List Code)} {s : Shared} {E : Value → Shared → Prop} {Q : Flow → Shared → Prop}
   (hdp : dp + 300 < recursionLimit) (hun : un + 1500 < cLine)
   (F : Fr g L s.heap m) (N : News g L s.heap ((L + 1 + 1 + 1 + 1 + 1, oP) :: (L + 1 + 1 + 1 + 1, oF) :: (L + 1 + 1 + 1, oC) :: (L + 1 + 1, oA) :: (L + 1, oZ) :: (zA, listOf zs.toArray ez) :: (fA, listOf fs.toArray ef) :: (65, tabObj ps) :: tl))
   {ar : Nat} {ta tP : Tok} {pw : Int} (hoA : oA.data = .cell (some (.int (ar : Int) ta))) (hoP : oP.data = .cell (some (.int pw tP))) (hoF : oF.data = .cell (some (.ref fA))) (har : 1 ≤ ar) (har2 : ar ≤ 20) (hfs : ar ≤ fs.length) (hfs2 : fs.length ≤ 20) (hpw0 : 0 ≤ pw) (hpw1 : pw < 2 ^ 34)
   (hw : WarmIn w tl) (htl0 : TlOff L tl) (h65 : @LT.lt Nat _ 65 L)
   (hret : ∀ D tl' ys h' tk', Fr g L h' (fun y => if y = Str.ofString "due" then some (.ref D) else m y) → News g L h' ((L + 1 + 1 + 1 + 1 + 1, oP) :: (L + 1 + 1 + 1 + 1, oF) :: (L + 1 + 1 + 1, oC) :: (L + 1 + 1, oA) :: (L + 1, oZ) :: (zA, listOf zs.toArray ez) :: (fA, listOf fs.toArray ef) :: (65, tabObj ps) :: tl') → (D, listOf ys.toArray ar) ∈ tl' → ys = (List.range ar).map (fun (p : Nat) => fs.getD (((p : Int) * pw) % (ar : Int)).toNat .none) → (∀ p ∈ tl, p ∈ tl') → TlOff L tl' → WarmIn w tl' →
     Q .next { s with heap := h', toks := tk' }) :
   wpAny (model PySem.Challenge.rw_ph0093_01.row.prog w) ((AA dp un fr gd).deeper (lEnv w.params L fa cd)) (exec (lawLit w.params).1.b5 (lEnv w.params L fa cd)) Q E s := by
  have X := G.X
  have T := G.T
  revert X; k_fill; intro X
  have X' := X.keeps sg
  have T' := T.keeps sg
  have hmd' := chain1 (m := m) (k1 := Str.ofString "due") rfl
  have F0 := F
  rw [hmd'] at F
  dsimp only [lEnv, lawLit]
  change Fr g L s.heap _ at F
  clear F0
  (try k_fold)
  refine' LCg.Assign_ListComp_U F rfl ?sw ?cl ?ce ?ki ?na ?hx ?hy ?hp ?_
  (case cl => exact rfl)
  (case sw => exact rfl)
  (case ce => decide)
  (case ki => exact rfl)
  (case na => decide)
  (case hx => exact rfl)
  (case hy => exact rfl)
  (case hp => exact rfl)
  k_steps
  unfold Stop
  rename Fr _ _ _ _ => F1
  rename News _ _ _ _ => N1
  rename IsRange _ _ _ _ _ _ _ _ => hr
  have hN65 := (N1 _ (.tail _ (.tail _ (.tail _ (.tail _ (.tail _ (.tail _ (.tail _ (.head _)))))))))
  obtain ⟨rs1, rs2, rs3⟩ := range_src (n := ar) (by omega)
  refine LCg.CompSrc.range rfl F1 N1 hr rs1 rs2 rs3 fun gg => ?_
  refine compRest_inv ar (fun i ys nw => ∃ tl', nw = (L + 1 + 1 + 1 + 1 + 1, oP) :: (L + 1 + 1 + 1 + 1, oF) :: (L + 1 + 1 + 1, oC) :: (L + 1 + 1, oA) :: (L + 1, oZ) :: (zA, listOf zs.toArray ez) :: (fA, listOf fs.toArray ef) :: (65, tabObj ps) :: tl' ∧ ys = (List.range i).map (fun (p : Nat) => fs.getD (((p : Int) * pw) % (ar : Int)).toNat .none) ∧ (∀ p ∈ tl, p ∈ tl') ∧ TlOff L tl' ∧ WarmIn w tl') ?_ ?_ ar 0 [] _ (by omega) ⟨tl, rfl, rfl, fun _ h => h, htl0, hw⟩
  · rintro i ys nw v I oI C oC' B m₂ h tk E' hi ⟨tl', rfl, rfl, hs9, hn9, hw9⟩ ⟨tv, rfl⟩ hC hx F N off
    rw [Int.zero_add] at hx
    have hmul0 : 0 ≤ (i : Int) * pw := Int.mul_nonneg (by omega) hpw0
    have hmul1 : (i : Int) * pw < 2 ^ 40 := by
      have h1 : (i : Int) * pw ≤ 20 * pw := Int.mul_le_mul_of_nonneg_right (by omega) hpw0
      have h2 : 20 * pw < 2 ^ 40 := by omega
      omega
    k_steps
    rename Fr _ _ _ _ => F
    have hICD : I < h.objs.size ∧ C < h.objs.size ∧ B < h.objs.size := ⟨Heap.lt_size (N _ (.head _)).1, Heap.lt_size (N _ (.tail _ (.head _))).1, Heap.lt_size (N _ (.tail _ (.tail _ (.head _)))).1⟩
    have hL5 : @LT.lt Nat _ (L + 1 + 1 + 1 + 1 + 1) h.objs.size := Heap.lt_size (N _ (.tail _ (.tail _ (.tail _ (.head _))))).1
    refine idm_L G hmul0 hmul1 (by omega) (by omega) (pre := [_, _, _, _, _, _, _, _, _, _, _]) sg F N (.inr (.inl hw9)) (fun e => (warmIn_ne (e ▸ hw9)).elim) (by ktr_room) (by ktr_units) ?_
    intro T2 t1 t2 c imm2 h3 tk3 F3 N3 hw3 hk3 hnew3 hT2 hT2s
    simp only [List.cons_append, List.nil_append] at N3
    dsimp only at hnew3 hT2s
    have hk4 : ∀ p ∈ tl', p ∈ imm2 := hk3.elim (fun q => (warmIn_ne (q.2 ▸ hw9)).elim) id
    have N4 : News g L h3 ((T2, tupO [.int ((i : Int) * pw / (ar : Int)) t1, .int ((i : Int) * pw % (ar : Int)) t2] c) :: (I, oI) :: (C, oC') :: (B, LCg.lst _) :: (L + 1 + 1 + 1 + 1 + 1, oP) :: (L + 1 + 1 + 1 + 1, oF) :: (L + 1 + 1 + 1, oC) :: (L + 1 + 1, oA) :: (L + 1, oZ) :: (zA, listOf zs.toArray ez) :: (fA, listOf fs.toArray ef) :: (65, tabObj ps) :: imm2) := fun p hp => by
      rcases List.mem_cons.mp hp with rfl | hp
      · exact N3 _ (.tail _ (.tail _ (.tail _ (.tail _ (.tail _ (.tail _ (.tail _ (.tail _ (.tail _ (.tail _ (.tail _ hT2)))))))))))
      · exact N3 p hp
    clear F N N3
    k_steps
    rename Fr _ _ _ _ => F5
    rename News _ _ _ _ => N5
    have hm0 : 0 ≤ (i : Int) * pw % (ar : Int) := Int.emod_nonneg _ (by omega)
    have hm1 : (i : Int) * pw % (ar : Int) < (ar : Int) := Int.emod_lt_of_pos _ (by omega)
    have hxi : fs.toArray[((i : Int) * pw % (ar : Int)).toNat]? = some (fs.getD ((i : Int) * pw % (ar : Int)).toNat .none) := by
      rw [List.getElem?_toArray, List.getD_eq_getElem?_getD, List.getElem?_eq_getElem (by omega)]; rfl
    refine PyProof.Rows.item_list ⟨_, (N5 _ (.tail _ (.tail _ (.tail _ (.tail _ (.tail _ (.tail _ (.tail _ (.tail _ (.tail _ (.tail _ (.head _))))))))))) ).1, rfl, _, rfl⟩ hm0 (by omega) hxi ?_
    k_steps
    refine ⟨_, _, (L + 1 + 1 + 1 + 1 + 1, oP) :: (L + 1 + 1 + 1 + 1, oF) :: (L + 1 + 1 + 1, oC) :: (L + 1 + 1, oA) :: (L + 1, oZ) :: (zA, listOf zs.toArray ez) :: (fA, listOf fs.toArray ef) :: (65, tabObj ps) :: imm2, rfl, F5, news_sub N5 ?_, ?_, trivial, imm2, rfl, ?_, fun p hp => hk4 p (hs9 p hp), ?_, ?_⟩
    · intro p hp
      exact .tail _ hp
    · intro p hp
      have hp' := (mem_or (s := [_, _, _, _, _, _, _, _]) hp).symm
      rcases hp' with h | h
      · rcases hnew3 p h with ⟨q, hq, e⟩ | hq
        · rw [← e]; exact off q (.tail _ (.tail _ (.tail _ (.tail _ (.tail _ (.tail _ (.tail _ (.tail _ hq))))))))
        · exact ⟨Nat.ne_of_gt (Nat.lt_of_lt_of_le hICD.1 hq), Nat.ne_of_gt (Nat.lt_of_lt_of_le hICD.2.1 hq), Nat.ne_of_gt (Nat.lt_of_lt_of_le hICD.2.2 hq)⟩
      · exact off p (List.mem_append_left tl' h)
    · rw [List.range_succ, List.map_append]; rfl
    · intro p hp
      rcases hnew3 p hp with ⟨q, hq, e⟩ | hq
      · rw [← e]; exact hn9 q hq
      · exact ⟨by omega, by omega⟩
    · exact hw3.elim id fun x => by
        obtain ⟨⟨_, a1, _⟩, _⟩ := x
        obtain ⟨_, _, _, _, b1, _⟩ := hw9
        have := (N5 _ (.tail _ (.tail _ (.tail _ (.tail _ (.tail _ (.tail _ (.tail _ (.tail _ (.tail _ (.tail _ (.tail _ (.tail _ (hk4 _ b1)))))))))))))).2.2
        rw [this] at a1
        cases a1
  · rintro ys nw ⟨tl', rfl, rfl, hs9, hn9, hw9⟩
    intro B h8 tk8 F8 N8 off8
    have o := off1_mem off8
    rw [lst_eq (n := ar) (by rw [List.length_map, List.length_range])] at N8
    refine hret B ((B, listOf _ ar) :: tl') _ _ _ ?_ (news_sub N8 fun p hp => ?_) (.head _) rfl (fun p hp => .tail _ (hs9 p hp)) ?_ (hw9.sub fun p hp => .tail _ hp)
    · rw [← hmd'] at F8; exact F8
    · exact mem_mid (pre := [_, _, _, _, _, _, _, _]) hp
    · intro p hp
      rcases List.mem_cons.mp hp with rfl | hp
      · exact ⟨Ne.symm (o _ (.tail _ (.tail _ (.tail _ (.tail _ (.tail _ (.tail _ (.tail _ (.head _))))))))), Ne.symm (o _ (.head _))⟩
      · exact hn9 p hp
end
section -- E4
set_option maxHeartbeats 1000000
theorem prs_append {l : List (Addr × Obj)} : ∀ {vs ws : List Value} {ps qs : List (Int × Int)}, Prs l vs ps → Prs l ws qs → Prs l (vs ++ ws) (ps ++ qs)
  | _, _, _, _, .nil, h => h
  | _, _, _, _, .cons a t, h => .cons a (prs_append t h)
theorem prs_drop {l : List (Addr × Obj)} : ∀ {vs : List Value} {ps : List (Int × Int)} (n : Nat), Prs l vs ps → Prs l (vs.drop n) (ps.drop n)
  | _, _, 0, h => h
  | _, _, _ + 1, .nil => .nil
  | _, _, n + 1, .cons _ t => prs_drop n t
theorem slice_L {prog : Program} {w : World} {A : Around} {E : Value → Shared → Prop} {s : Shared} {h₀ : Heap} {L : Addr} {m : Str → Option Value} {value slice : Expr} {l : Addr} {xs : List Value} {e k : Nat} {tk : Tok} {news : List (Addr × Obj)} {Q : Value → Shared → Prop} (F : Fr h₀ L s.heap m) (N : News h₀ L s.heap news) (ha : (l, listOf xs.toArray e) ∈ news) (hz : xs.length ≤ 1000)
    (h : ∀ D h', Fr h₀ L h' m → News h₀ L h' ((D, listOf (xs.drop k).toArray 0) :: news) → Q (.ref D) { s with heap := h' })
    (hs : subscripted slice false (.ref l) (.ref s.heap.objs.size) = operate [.ref s.heap.objs.size, .ref l] (getItem (.ref l) (.ref s.heap.objs.size))) (ht : ∀ r, letTemporaryGo value (.ref l) r = pure ()) :
    wpAny (model prog w) A (subscriptTail value slice (.ref l) (.ref s.heap.objs.size)) Q E { s with heap := s.heap.push { cls := .type "slice", data := .fields #[.int (k : Int) tk, .none, .none] } } :=
  PyProof.Rows.slice_list F N ⟨_, (N _ ha).1, rfl, _, rfl⟩ (IsPart.int _ _) IsPart.none (fun h' F' N' => h _ h' F' (by rw [slicePick_from'] at N'; exact N')) hs ht (by rw [sizeLine_eq]; simp; omega)
local macro_rules | `(tactic| walk_at "compareOp NotEq ref ref") => `(tactic| (refine stop_intro ?_))
local macro_rules | `(tactic| walk_at "compareOp Eq ref ref") => `(tactic| (refine stop_intro ?_))
local macro_rules | `(tactic| walk_at "subscriptTail Name Slice ref ref") => `(tactic| (k_here; k_dflt (refine' slice_L ?F ?N ?a ?z ?_ ?s ?t; (case F => k_asm); (case N => k_asm); (case a => k_mem); (case z => omega); (case s => with_unfolding_all rfl); (case t => kmk_pure)); intro D' h' F' N'))
local macro_rules | `(tactic| walk_at "binaryOp Add ref ref") => `(tactic| (k_here; k_dflt (refine' add_L ?F ?N ?a ?b ?z ?_; (case F => k_asm); (case N => k_asm); (case a => (repeat (first | assumption | apply List.Mem.tail))); (case b => k_mem); (case z => (simp only [List.length_drop]; omega))); intro D' h' F' N' l1 lL))
theorem T_f {w : World} {p : Program} {loose : List Str} {mean : ExcName → Option Value} {mg mb : Str → Option Value} {g₀ g : Heap} (G : Gd w p loose mean mg mb g₀) (sg : Sub g₀ g)
   {L fa : Addr} {cd : Value} {zA fA : Addr} {ez ef : Nat} {oP oF oC oA oZ : Obj} {ps : Array Value} {zs fs : List Value} {tl : List (Addr × Obj)} {m : Str → Option Value}
   {dp un : Nat} {fr : Option (List Env)} {gd : Option (List Code)} {s : Shared} {E : Value → Shared → Prop} {Q : Flow → Shared → Prop}
   (hdp : dp + 300 < recursionLimit) (hun : un + 1500 < cLine)
   (F : Fr g L s.heap m) (N : News g L s.heap ((L + 1 + 1 + 1 + 1 + 1, oP) :: (L + 1 + 1 + 1 + 1, oF) :: (L + 1 + 1 + 1, oC) :: (L + 1 + 1, oA) :: (L + 1, oZ) :: (zA, listOf zs.toArray ez) :: (fA, listOf fs.toArray ef) :: (65, tabObj ps) :: tl))
   {ar : Nat} {ta : Tok} {D2 D3 : Addr} {dv ys : List Value} {e2 e3 : Nat} {dps yps fps : List (Int × Int)} (hmd2 : m (Str.ofString "deck") = some (.ref D2)) (hmdue : m (Str.ofString "due") = some (.ref D3))
   (hoA : oA.data = .cell (some (.int (ar : Int) ta))) (hoF : oF.data = .cell (some (.ref fA))) (hfs2 : fs.length ≤ 20) (hys2 : ys.length ≤ 20)
   (hD2 : (D2, listOf dv.toArray e2) ∈ tl) (hD3 : (D3, listOf ys.toArray e3) ∈ tl) (hp2 : Prs tl dv dps) (hp3 : Prs tl ys yps) (hpf : Prs tl fs fps) (heq : dps = yps ++ fps.drop ar)
   (hret : ∀ h' tk', Fr g L h' m → News g L h' ((L + 1 + 1 + 1 + 1 + 1, oP) :: (L + 1 + 1 + 1 + 1, oF) :: (L + 1 + 1 + 1, oC) :: (L + 1 + 1, oA) :: (L + 1, oZ) :: (zA, listOf zs.toArray ez) :: (fA, listOf fs.toArray ef) :: (65, tabObj ps) :: tl) → Q .next { s with heap := h', toks := tk' }) :
   wpAny (model PySem.Challenge.rw_ph0093_01.row.prog w) ((AA dp un fr gd).deeper (lEnv w.params L fa cd)) (exec (lawLit w.params).1.b6 (lEnv w.params L fa cd)) Q E s := by
  have X := G.X
  have T := G.T
  revert X; k_fill; intro X
  have X' := X.keeps sg
  have T' := T.keeps sg
  have hmd' := chain2 hmd2 hmdue
  have F0 := F
  rw [hmd'] at F
  dsimp only [lEnv, lawLit]
  change Fr g L s.heap _ at F
  clear F0
  (try k_fold)
  k_steps
  unfold Stop
  rename Fr _ _ _ _ => F9
  rename News _ _ _ _ => N9
  have tm : ∀ {p : Addr × Obj}, p ∈ tl → ∀ (a b c1 c2 c3 c4 c5 c6 c7 c8 : Addr × Obj), p ∈ a :: b :: c1 :: c2 :: c3 :: c4 :: c5 :: c6 :: c7 :: c8 :: tl := fun h _ _ _ _ _ _ _ _ _ _ => .tail _ (.tail _ (.tail _ (.tail _ (.tail _ (.tail _ (.tail _ (.tail _ (.tail _ (.tail _ h)))))))))
  refine ne_prs N9 (prs_sub (fun p hp => tm hp _ _ _ _ _ _ _ _ _ _) hp2) (prs_sub (fun p hp => tm hp _ _ _ _ _ _ _ _ _ _) (prs_append hp3 (prs_drop ar hpf))) (tm hD2 _ _ _ _ _ _ _ _ _ _) (.head _) (by ktr_units) ?_
  rw [heq, decide_eq_true rfl]
  dsimp only [Bool.not_true]
  k_steps
  rename Fr _ _ _ _ => F11
  rename News _ _ _ _ => N11
  rw [← hmd'] at F11
  exact hret _ _ F11 (news_sub N11 fun p hp => .tail _ (.tail _ hp))
theorem T_h {w : World} {p : Program} {loose : List Str} {mean : ExcName → Option Value} {mg mb : Str → Option Value} {g₀ g : Heap} (G : Gd w p loose mean mg mb g₀) (sg : Sub g₀ g)
   {L fa : Addr} {cd : Value} {zA fA : Addr} {ez ef : Nat} {oP oF oC oA oZ : Obj} {ps : Array Value} {zs fs : List Value} {tl : List (Addr × Obj)} {m : Str → Option Value}
   {dp un : Nat} {fr : Option (List Env)} {gd : Option (List Code)} {s : Shared} {E : Value → Shared → Prop} {Q : Flow → Shared → Prop}
   (hdp : dp + 300 < recursionLimit) (hun : un + 1500 < cLine)
   (F : Fr g L s.heap m) (N : News g L s.heap ((L + 1 + 1 + 1 + 1 + 1, oP) :: (L + 1 + 1 + 1 + 1, oF) :: (L + 1 + 1 + 1, oC) :: (L + 1 + 1, oA) :: (L + 1, oZ) :: (zA, listOf zs.toArray ez) :: (fA, listOf fs.toArray ef) :: (65, tabObj ps) :: tl))
   {D2 : Addr} {dv : List Value} {e2 : Nat} {dps fps : List (Int × Int)} {bk : Bool} (hmd2 : m (Str.ofString "deck") = some (.ref D2)) (hmb : m (Str.ofString "back") = some (.bool bk))
   (hoF : oF.data = .cell (some (.ref fA)))
   (hD2 : (D2, listOf dv.toArray e2) ∈ tl) (hp2 : Prs tl dv dps) (hpf : Prs tl fs fps) (heq : (dps = fps) ↔ bk = true)
   (hret : ∀ h' tk', Fr g L h' m → News g L h' ((L + 1 + 1 + 1 + 1 + 1, oP) :: (L + 1 + 1 + 1 + 1, oF) :: (L + 1 + 1 + 1, oC) :: (L + 1 + 1, oA) :: (L + 1, oZ) :: (zA, listOf zs.toArray ez) :: (fA, listOf fs.toArray ef) :: (65, tabObj ps) :: tl) → Q .next { s with heap := h', toks := tk' }) :
   wpAny (model PySem.Challenge.rw_ph0093_01.row.prog w) ((AA dp un fr gd).deeper (lEnv w.params L fa cd)) (exec (lawLit w.params).1.b8 (lEnv w.params L fa cd)) Q E s := by
  have X := G.X
  have T := G.T
  revert X; k_fill; intro X
  have X' := X.keeps sg
  have T' := T.keeps sg
  have hmd' := chain2 hmd2 hmb
  have F0 := F
  rw [hmd'] at F
  dsimp only [lEnv, lawLit]
  change Fr g L s.heap _ at F
  clear F0
  (try k_fold)
  k_steps
  unfold Stop
  rename Fr _ _ _ _ => F9
  rename News _ _ _ _ => N9
  have tm : ∀ {p : Addr × Obj}, p ∈ tl → ∀ (c1 c2 c3 c4 c5 c6 c7 c8 : Addr × Obj), p ∈ c1 :: c2 :: c3 :: c4 :: c5 :: c6 :: c7 :: c8 :: tl := fun h _ _ _ _ _ _ _ _ => .tail _ (.tail _ (.tail _ (.tail _ (.tail _ (.tail _ (.tail _ (.tail _ h)))))))
  refine eq_prs N9 (prs_sub (fun p hp => tm hp _ _ _ _ _ _ _ _) hp2) (prs_sub (fun p hp => tm hp _ _ _ _ _ _ _ _) hpf) (tm hD2 _ _ _ _ _ _ _ _) (.tail _ (.tail _ (.tail _ (.tail _ (.tail _ (.tail _ (.head _))))))) (by ktr_units) ?_
  have hb : decide (dps = fps) = bk := by
    cases bk
    · simpa using heq
    · simpa using heq
  rw [hb]
  clear hb heq
  cases bk
  · k_steps
    rename Fr _ _ _ _ => F11
    rename News _ _ _ _ => N11
    rw [← hmd'] at F11
    exact hret _ _ F11 N11
  · k_steps
    rename Fr _ _ _ _ => F11
    rename News _ _ _ _ => N11
    rw [← hmd'] at F11
    exact hret _ _ F11 N11
theorem T_i {w : World} {p : Program} {loose : List Str} {mean : ExcName → Option Value} {mg mb : Str → Option Value} {g₀ g : Heap} (G : Gd w p loose mean mg mb g₀) (sg : Sub g₀ g)
   {L fa : Addr} {cd : Value} {zA fA : Addr} {ez ef : Nat} {oP oF oC oA oZ : Obj} {ps : Array Value} {zs fs : List Value} {tl : List (Addr × Obj)} {m : Str → Option Value}
   {dp un : Nat} {fr : Option (List Env)} {gd : Option (List Code)} {s : Shared} {E : Value → Shared → Prop} {Q : Flow → Shared → Prop}
   (hdp : dp + 300 < recursionLimit) (hun : un + 1500 < cLine)
   (F : Fr g L s.heap m) (N : News g L s.heap ((L + 1 + 1 + 1 + 1 + 1, oP) :: (L + 1 + 1 + 1 + 1, oF) :: (L + 1 + 1 + 1, oC) :: (L + 1 + 1, oA) :: (L + 1, oZ) :: (zA, listOf zs.toArray ez) :: (fA, listOf fs.toArray ef) :: (65, tabObj ps) :: tl))
   {bk : Bool} (hmb : m (Str.ofString "back") = some (.bool bk))
   (hret0 : ∀ h' tk', bk = false → Fr g L h' m → News g L h' ((L + 1 + 1 + 1 + 1 + 1, oP) :: (L + 1 + 1 + 1 + 1, oF) :: (L + 1 + 1 + 1, oC) :: (L + 1 + 1, oA) :: (L + 1, oZ) :: (zA, listOf zs.toArray ez) :: (fA, listOf fs.toArray ef) :: (65, tabObj ps) :: tl) → Q .next { s with heap := h', toks := tk' })
   (hret1 : ∀ h' tk', bk = true → Fr g L h' m → News g L h' ((L + 1 + 1 + 1 + 1 + 1, oP) :: (L + 1 + 1 + 1 + 1, oF) :: (L + 1 + 1 + 1, oC) :: (L + 1 + 1, oA) :: (L + 1, oZ) :: (zA, listOf zs.toArray ez) :: (fA, listOf fs.toArray ef) :: (65, tabObj ps) :: tl) → Q (.ret (.bool true)) { s with heap := h', toks := tk' }) :
   wpAny (model PySem.Challenge.rw_ph0093_01.row.prog w) ((AA dp un fr gd).deeper (lEnv w.params L fa cd)) (exec (lawLit w.params).1.b9 (lEnv w.params L fa cd)) Q E s := by
  have X := G.X
  have T := G.T
  revert X; k_fill; intro X
  have X' := X.keeps sg
  have T' := T.keeps sg
  have hmd' := chain1 hmb
  have F0 := F
  rw [hmd'] at F
  dsimp only [lEnv, lawLit]
  change Fr g L s.heap _ at F
  clear F0
  (try k_fold)
  cases bk
  · k_steps
    rename Fr _ _ _ _ => F11
    rename News _ _ _ _ => N11
    rw [← hmd'] at F11
    exact hret0 _ _ rfl F11 N11
  · k_steps
    rename Fr _ _ _ _ => F11
    rename News _ _ _ _ => N11
    rw [← hmd'] at F11
    exact hret1 _ _ rfl F11 N11
end
section -- E5
set_option maxHeartbeats 1000000
theorem fr_over {g h : Heap} {L : Addr} {m m' : Str → Option Value} {k : Str} {v : Option Value} (e : m = m') (F : Fr g L h (fun y => if y = k then v else m' y)) : Fr g L h (fun y => if y = k then v else m y) := by
  rw [← e] at F; exact F
theorem T_a {w : World} {p : Program} {loose : List Str} {mean : ExcName → Option Value} {mg mb : Str → Option Value} {g₀ g : Heap} (G : Gd w p loose mean mg mb g₀) (sg : Sub g₀ g)
   {L fa : Addr} {cd : Value} {zA fA : Addr} {ez ef : Nat} {oP oF oC oA oZ : Obj} {ps : Array Value} {zs fs : List Value} {tl : List (Addr × Obj)} {m : Str → Option Value}
   {dp un : Nat} {fr : Option (List Env)} {gd : Option (List Code)} {s : Shared} {E : Value → Shared → Prop} {Q : Flow → Shared → Prop}
   (hdp : dp + 400 < recursionLimit) (hun : un + 2000 < cLine)
   (F : Fr g L s.heap m) (N : News g L s.heap ((L + 1 + 1 + 1 + 1 + 1, oP) :: (L + 1 + 1 + 1 + 1, oF) :: (L + 1 + 1 + 1, oC) :: (L + 1 + 1, oA) :: (L + 1, oZ) :: (zA, listOf zs.toArray ez) :: (fA, listOf fs.toArray ef) :: (65, tabObj ps) :: tl))
   {np : Nat} {tp : Tok} {dk : Addr} {dv : List Value} {ed : Nat} (hmdk : m (Str.ofString "deck") = some (.ref dk)) (hmp : m (Str.ofString "piles") = some (.int (np : Int) tp)) (hp2 : 2 ≤ np) (hp4 : np ≤ 4) (hdv : dv.length ≤ 20) (hdv1 : 1 ≤ dv.length)
   (hdk : (dk, listOf dv.toArray ed) ∈ (L + 1 + 1 + 1 + 1 + 1, oP) :: (L + 1 + 1 + 1 + 1, oF) :: (L + 1 + 1 + 1, oC) :: (L + 1 + 1, oA) :: (L + 1, oZ) :: (zA, listOf zs.toArray ez) :: (fA, listOf fs.toArray ef) :: (65, tabObj ps) :: tl) (hst : ColdT tl ps ∨ WarmT w tl ps) (htl0 : TlOff L tl) (h65 : @LT.lt Nat _ 65 L) (hzL : @LT.lt Nat _ L zA) (hfL : @Ne Nat fA 37 ∧ @Ne Nat fA 44 ∧ @Ne Nat fA 65)
   (hret : ∀ D its e' tl' ps' h' tk', Fr g L h' (fun y => if y = Str.ofString "dealt" then some (.ref D) else m y) → News g L h' ((L + 1 + 1 + 1 + 1 + 1, oP) :: (L + 1 + 1 + 1 + 1, oF) :: (L + 1 + 1 + 1, oC) :: (L + 1 + 1, oA) :: (L + 1, oZ) :: (zA, listOf zs.toArray ez) :: (fA, listOf fs.toArray ef) :: (65, tabObj ps') :: tl') → WarmT w tl' ps' → (∀ p ∈ tl, p.1 ≠ 37 → p.1 ≠ 44 → p ∈ tl') → TlOff L tl' →
     (D, listOf (its.map It.v).toArray e') ∈ tl' → SpotsL tl' its → its.map It.key = dealKeys np dv → Q .next { s with heap := h', toks := tk' }) :
   wpAny (model PySem.Challenge.rw_ph0093_01.row.prog w) ((AA dp un fr gd).deeper (lEnv w.params L fa cd)) (exec (lawLit w.params).1.b1 (lEnv w.params L fa cd)) Q E s := by
  have X := G.X
  have T := G.T
  revert X; k_fill; intro X
  have X' := X.keeps sg
  have T' := T.keeps sg
  have hmd' := chain2 hmdk hmp
  have F0 := F
  rw [hmd'] at F
  dsimp only [lEnv, lawLit]
  change Fr g L s.heap _ at F
  clear F0
  (try k_fold)
  k_steps
  rename Fr _ _ _ _ => F1
  rename News _ _ _ _ => N1
  have hL5 : @LT.lt Nat _ (L + 1 + 1 + 1 + 1 + 1) s.heap.objs.size := Heap.lt_size (N1 _ (.head _)).1
  refine dealt_L G (pre := [_, _, _, _, _, _, _]) hp2 hp4 hdv hdv1 sg F1 N1 ?_ (fun p hp => (htl0 p hp).1) (N1 _ hdk).1 hst (by ktr_room) (by ktr_units) ?_
  · intro p hp
    simp only [List.mem_cons, List.not_mem_nil, or_false] at hp
    rcases hp with rfl | rfl | rfl | rfl | rfl | rfl | rfl <;> (dsimp only; exact ⟨neN (by omega), neN (by omega), neN (by omega)⟩)
  · intro D its e' tl' ps' h' tk' F2 N2 hw2 hs2 hn2 hD2 hsp2 hk2
    simp only [List.cons_append, List.nil_append] at N2
    (try dsimp only at hn2)
    k_steps
    rename Fr _ _ _ _ => F9
    rename News _ _ _ _ => N9
    refine hret D its e' tl' ps' _ _ ?_ N9 hw2 hs2 (fun p hp => ?_) hD2 hsp2 hk2
    · exact fr_over hmd' F9
    · rcases hn2 p hp with h | h | h | h
      · rw [h]; exact ⟨show 37 ≠ 65 by decide, neN (by omega)⟩
      · rw [h]; exact ⟨show 44 ≠ 65 by decide, neN (by omega)⟩
      · exact htl0 p h
      · exact ⟨neN (by omega), neN (by omega)⟩
theorem T_g {w : World} {p : Program} {loose : List Str} {mean : ExcName → Option Value} {mg mb : Str → Option Value} {g₀ g : Heap} (G : Gd w p loose mean mg mb g₀) (sg : Sub g₀ g)
   {L fa : Addr} {cd : Value} {zA fA : Addr} {ez ef : Nat} {oP oF oC oA oZ : Obj} {ps : Array Value} {zs fs : List Value} {tl : List (Addr × Obj)} {m : Str → Option Value}
   {dp un : Nat} {fr : Option (List Env)} {gd : Option (List Code)} {s : Shared} {E : Value → Shared → Prop} {Q : Flow → Shared → Prop}
   (hdp : dp + 400 < recursionLimit) (hun : un + 2000 < cLine)
   (F : Fr g L s.heap m) (N : News g L s.heap ((L + 1 + 1 + 1 + 1 + 1, oP) :: (L + 1 + 1 + 1 + 1, oF) :: (L + 1 + 1 + 1, oC) :: (L + 1 + 1, oA) :: (L + 1, oZ) :: (zA, listOf zs.toArray ez) :: (fA, listOf fs.toArray ef) :: (65, tabObj ps) :: tl))
   {ar : Nat} {ta tP : Tok} {pw : Int} (hoA : oA.data = .cell (some (.int (ar : Int) ta))) (hoP : oP.data = .cell (some (.int pw tP))) (har : 1 ≤ ar) (har2 : ar ≤ 20) (hpw0 : 0 ≤ pw) (hpw1 : pw < 2 ^ 34)
   (hw : WarmIn w tl) (htl0 : TlOff L tl)
   (hret : ∀ tl' h' tk', Fr g L h' (fun y => if y = Str.ofString "back" then some (.bool (pw % (ar : Int) == 1 % (ar : Int))) else m y) → News g L h' ((L + 1 + 1 + 1 + 1 + 1, oP) :: (L + 1 + 1 + 1 + 1, oF) :: (L + 1 + 1 + 1, oC) :: (L + 1 + 1, oA) :: (L + 1, oZ) :: (zA, listOf zs.toArray ez) :: (fA, listOf fs.toArray ef) :: (65, tabObj ps) :: tl') → (∀ p ∈ tl, p ∈ tl') → TlOff L tl' → WarmIn w tl' → Q .next { s with heap := h', toks := tk' }) :
   wpAny (model PySem.Challenge.rw_ph0093_01.row.prog w) ((AA dp un fr gd).deeper (lEnv w.params L fa cd)) (exec (lawLit w.params).1.b7 (lEnv w.params L fa cd)) Q E s := by
  have X := G.X
  have T := G.T
  revert X; k_fill; intro X
  have X' := X.keeps sg
  have T' := T.keeps sg
  have hmd' := chain1 (m := m) (k1 := Str.ofString "back") rfl
  have F0 := F
  rw [hmd'] at F
  dsimp only [lEnv, lawLit]
  change Fr g L s.heap _ at F
  clear F0
  (try k_fold)
  have wup : ∀ {h : Heap} {tl1 tl2 : List (Addr × Obj)} {F : Nat}, WarmIn w tl1 → (∀ p ∈ tl1, p ∈ tl2) → News g L h tl2 → Wst w g tl2 → WarmIn w tl2 := fun {h tl1 tl2 _} hw9 hk4 N5 hw3 => hw3.elim id fun x => by
    obtain ⟨⟨_, a1, _⟩, _⟩ := x
    obtain ⟨_, _, _, _, b1, _⟩ := hw9
    have := (N5 _ (hk4 _ b1)).2.2
    rw [this] at a1
    cases a1
  k_steps
  rename Fr _ _ _ _ => F1
  rename News _ _ _ _ => N1
  have hL5 : @LT.lt Nat _ (L + 1 + 1 + 1 + 1 + 1) s.heap.objs.size := Heap.lt_size (N1 _ (.head _)).1
  have h65s : @LT.lt Nat _ 65 s.heap.objs.size := Heap.lt_size (N1 _ (.tail _ (.tail _ (.tail _ (.tail _ (.tail _ (.tail _ (.tail _ (.head _))))))))).1
  refine idm_L G hpw0 (by omega) (by omega) (by omega) (pre := [_, _, _, _, _, _, _, _]) sg F1 N1 (.inr (.inl hw)) (fun e => (warmIn_ne (e ▸ hw)).elim) (by ktr_room) (by ktr_units) ?_
  intro T2 t1 t2 c imm2 h3 tk3 F3 N3 hw3 hk3 hnew3 hT2 hT2s
  simp only [List.cons_append, List.nil_append] at N3
  (try dsimp only at hnew3 hT2s)
  have hk4 : ∀ p ∈ tl, p ∈ imm2 := hk3.elim (fun q => (warmIn_ne (q.2 ▸ hw)).elim) id
  have hw4 : WarmIn w imm2 := wup (F := 0) hw hk4 (fun p hp => N3 p (.tail _ (.tail _ (.tail _ (.tail _ (.tail _ (.tail _ (.tail _ (.tail _ hp))))))))) hw3
  have off4 : TlOff L imm2 := fun p hp => by
    rcases hnew3 p hp with ⟨q, hq, e⟩ | hq
    · rw [← e]; exact htl0 q hq
    · exact ⟨by omega, by omega⟩
  have N4 : News g L h3 ((T2, tupO [.int (pw / (ar : Int)) t1, .int (pw % (ar : Int)) t2] c) :: (L + 1 + 1 + 1 + 1 + 1, oP) :: (L + 1 + 1 + 1 + 1, oF) :: (L + 1 + 1 + 1, oC) :: (L + 1 + 1, oA) :: (L + 1, oZ) :: (zA, listOf zs.toArray ez) :: (fA, listOf fs.toArray ef) :: (65, tabObj ps) :: imm2) := fun p hp => by
    rcases List.mem_cons.mp hp with rfl | hp
    · exact N3 _ (.tail _ (.tail _ (.tail _ (.tail _ (.tail _ (.tail _ (.tail _ (.tail _ hT2))))))))
    · exact N3 p hp
  clear F1 N1 N3 hw3 hk3 hnew3
  k_steps
  rename Fr _ _ _ _ => F5
  rename News _ _ _ _ => N5
  have hL53 : @LT.lt Nat _ (L + 1 + 1 + 1 + 1 + 1) h3.objs.size := Heap.lt_size (N5 _ (.tail _ (.head _))).1
  have h653 : @LT.lt Nat _ 65 h3.objs.size := Heap.lt_size (N5 _ (.tail _ (.tail _ (.tail _ (.tail _ (.tail _ (.tail _ (.tail _ (.tail _ (.head _)))))))))).1
  refine idm_L G (by omega) (by omega) (by omega) (by omega) (pre := [_, _, _, _, _, _, _, _, _]) sg F5 N5 (.inr (.inl hw4)) (fun e => (warmIn_ne (e ▸ hw4)).elim) (by ktr_room) (by ktr_units) ?_
  intro T3 t3 t4 c3 imm3 h5 tk5 F6 N6 hw6 hk6 hnew6 hT3 hT3s
  simp only [List.cons_append, List.nil_append] at N6
  (try dsimp only at hnew6 hT3s)
  have hk7 : ∀ p ∈ imm2, p ∈ imm3 := hk6.elim (fun q => (warmIn_ne (q.2 ▸ hw4)).elim) id
  have hw7 : WarmIn w imm3 := wup (F := 0) hw4 hk7 (fun p hp => N6 p (.tail _ (.tail _ (.tail _ (.tail _ (.tail _ (.tail _ (.tail _ (.tail _ (.tail _ hp)))))))))) hw6
  have off7 : TlOff L imm3 := fun p hp => by
    rcases hnew6 p hp with ⟨q, hq, e⟩ | hq
    · rw [← e]; exact off4 q hq
    · exact ⟨by omega, by omega⟩
  have N7 : News g L h5 ((T3, tupO [.int (1 / (ar : Int)) t3, .int (1 % (ar : Int)) t4] c3) :: (L + 1 + 1 + 1 + 1 + 1, oP) :: (L + 1 + 1 + 1 + 1, oF) :: (L + 1 + 1 + 1, oC) :: (L + 1 + 1, oA) :: (L + 1, oZ) :: (zA, listOf zs.toArray ez) :: (fA, listOf fs.toArray ef) :: (65, tabObj ps) :: imm3) := fun p hp => by
    rcases List.mem_cons.mp hp with rfl | hp
    · exact N6 _ (.tail _ (.tail _ (.tail _ (.tail _ (.tail _ (.tail _ (.tail _ (.tail _ (.tail _ hT3)))))))))
    · exact N6 p (.tail _ hp)
  clear F5 N5 N6 hw6 hk6 hnew6
  k_steps
  rename Fr _ _ _ _ => F8
  rename News _ _ _ _ => N8
  exact hret imm3 _ _ (fr_over hmd' F8) (news_sub N8 fun p hp => .tail _ hp) (fun p hp => hk7 p (hk4 p hp)) off7 hw7
end
section -- P2
set_option maxHeartbeats 1000000
def keyN (np : Nat) (dv : List Value) (j : Nat) : Int × Int × Value := ((j : Int) / (np : Int), (j : Int) % (np : Int), dv.getD j .none)
theorem dealK_map (np : Nat) (dv : List Value) (l : List Nat) : ∀ i, dealK (l.map (keyN np dv)) i = ((dealN np l i).1.map (keyN np dv), (dealN np l i).2.map (keyN np dv))
  | 0 => rfl
  | i + 1 => by
    have ih := dealK_map np dv l i
    have f1 : ∀ l : List Nat, (l.map (keyN np dv)).filter (fun x => x.2.1 == (i : Int)) = (l.filter (fun j => j % np == i)).map (keyN np dv) := fun l => by
      rw [List.filter_map]
      congr 1
      apply List.filter_congr
      intro j _
      simp only [Function.comp, keyN]
      rw [Bool.eq_iff_iff]
      simp only [beq_iff_eq]
      constructor <;> intro h <;> omega
    have f2 : ∀ l : List Nat, (l.map (keyN np dv)).filter (fun x => !(x.2.1 == (i : Int))) = (l.filter (fun j => !(j % np == i))).map (keyN np dv) := fun l => by
      rw [List.filter_map]
      congr 1
      apply List.filter_congr
      intro j _
      simp only [Function.comp, keyN]
      rw [Bool.eq_iff_iff]
      simp only [Bool.not_eq_true', beq_eq_false_iff_ne, ne_eq]
      constructor <;> intro h q <;> apply h <;> omega
    simp only [dealK, dealN, ih, f1, f2, List.map_append]
theorem dealKeys_eq (np : Nat) (dv : List Value) : dealKeys np dv = (dealPerm np dv.length).map (keyN np dv) := by
  unfold dealKeys dealPerm
  have e : keysOf np dv = (List.range dv.length).map (keyN np dv) := rfl
  rw [e, dealK_map, List.map_append]
theorem permAt_len {np n : Nat} (h : (dealPerm np n).length = n) : ∀ k, (permAt np n k).length = n
  | 0 => by simp [permAt]
  | k + 1 => by simp [permAt, h]
theorem permAt_lt {np n : Nat} (hn : 0 < n) (h : (dealPerm np n).length = n) : ∀ k, ∀ x ∈ permAt np n k, x < n
  | 0, x, hx => by simpa [permAt] using hx
  | k + 1, x, hx => by
    simp only [permAt, List.mem_map] at hx
    obtain ⟨j, _, rfl⟩ := hx
    rw [List.getD_eq_getElem?_getD]
    cases e : (permAt np n k)[j]? with
    | none => exact hn
    | some y => exact permAt_lt hn h k y (List.mem_of_getElem? e)
theorem toldZ_eq (np sh bs : Nat) : toldZ np (sizesOf np sh bs) = (toldOf np sh bs).map fun p => ((p.1 : Int), (p.2 : Int)) := by
  simp [toldZ, toldOf, List.map_flatMap, Function.comp_def]
section
variable {np sh bs : Nat} (C : Chk np sh bs) {k : Nat} {its : List It} {fs dv : List Value}
include C
theorem told_ok (hk : its.map It.key = dealKeys np dv) (hl : dv.length = sizeOf' np sh bs) : its.map (fun i => (i.q, i.r)) = toldZ np (sizesOf np sh bs) := by
  rw [dealKeys_eq, hl] at hk
  have := congrArg (List.map fun x : Int × Int × Value => (x.1, x.2.1)) hk
  rw [List.map_map, List.map_map] at this
  rw [toldZ_eq, ← C.told, List.map_map]
  refine Eq.trans ?_ (this.trans ?_)
  · rfl
  · apply List.map_congr_left
    intro j _
    simp [keyN]
theorem card_ok (hk : its.map It.key = dealKeys np dv) (hdv : dv = (permAt np (sizeOf' np sh bs) k).map fun j => fs.getD j .none) : its.map It.card = (permAt np (sizeOf' np sh bs) (k + 1)).map fun j => fs.getD j .none := by
  have hl : dv.length = sizeOf' np sh bs := by rw [hdv, List.length_map, permAt_len C.len]
  rw [dealKeys_eq, hl] at hk
  have := congrArg (List.map fun x : Int × Int × Value => x.2.2) hk
  rw [List.map_map, List.map_map] at this
  refine Eq.trans ?_ (this.trans ?_)
  · rfl
  · simp only [permAt, List.map_map]
    apply List.map_congr_left
    intro j hj
    have h1 := C.lt j hj
    have h2 : j < (permAt np (sizeOf' np sh bs) k).length := by rw [permAt_len C.len]; exact h1
    simp only [Function.comp, keyN, hdv]
    rw [List.getD_eq_getElem?_getD, List.getElem?_map, List.getElem?_eq_getElem h2]
    simp only [Option.map_some, Option.getD_some]
    rw [List.getD_eq_getElem?_getD (l := permAt np _ k), List.getElem?_eq_getElem h2]
    rfl
end
def fpsOf (n : Nat) (crd : Nat → Int) : List (Int × Int) := (List.range n).map fun (j : Nat) => ((j : Int), crd j)
theorem prs_perm {l : List (Addr × Obj)} {fs : List Value} {n : Nat} {crd : Nat → Int} (h : Prs l fs (fpsOf n crd)) {P : List Nat} (hP : ∀ x ∈ P, x < n) : Prs l (P.map fun j => fs.getD j .none) (P.map fun (j : Nat) => ((j : Int), crd j)) :=
  prs_map fun x hx => prs_get h (by
    unfold fpsOf
    rw [List.getElem?_map, List.getElem?_range (hP x hx)]
    rfl)
theorem map_pair_inj {crd : Nat → Int} : ∀ {a b : List Nat}, (a.map fun (j : Nat) => ((j : Int), crd j)) = (b.map fun (j : Nat) => ((j : Int), crd j)) → a = b
  | [], [], _ => rfl
  | [], _ :: _, h => by simp at h
  | _ :: _, [], h => by simp at h
  | x :: a, y :: b, h => by
    simp only [List.map_cons, List.cons.injEq, Prod.mk.injEq] at h
    rw [map_pair_inj h.2]
    have := h.1.1
    congr 1
    omega
theorem due_val {np k ar : Nat} (p : Nat) : (((p : Int) * ((np : Int) ^ k)) % (ar : Int)).toNat = (p * np ^ k) % ar := by
  have : ((p : Int) * ((np : Int) ^ k)) % (ar : Int) = (((p * np ^ k) % ar : Nat) : Int) := by
    push_cast
    rfl
  rw [this, Int.toNat_natCast]
theorem back_val {np k ar : Nat} : (((np : Int) ^ k) % (ar : Int) == 1 % (ar : Int)) = (np ^ k % ar == 1 % ar) := by
  have e1 : ((np : Int) ^ k) % (ar : Int) = ((np ^ k % ar : Nat) : Int) := by push_cast; rfl
  have e2 : (1 : Int) % (ar : Int) = ((1 % ar : Nat) : Int) := by push_cast; rfl
  rw [e1, e2, Bool.eq_iff_iff]
  simp only [beq_iff_eq]
  omega
end
section -- E6
set_option maxHeartbeats 1000000
theorem cfg_bounds {np sh bs : Nat} (hnp2 : 2 ≤ np) (hnp4 : np ≤ 4) (hsh : sh ≤ 1) (hbs2 : 2 ≤ bs) (hbs3 : bs ≤ 3) : 4 ≤ sizeOf' np sh bs ∧ sizeOf' np sh bs ≤ 15 ∧ 1 ≤ aroundOf np sh bs ∧ aroundOf np sh bs ≤ sizeOf' np sh bs := by
  have h : np = 2 ∨ np = 3 ∨ np = 4 := by omega
  unfold aroundOf sizeOf'
  rcases h with rfl | rfl | rfl <;> omega
theorem sizes_len (np sh bs : Nat) (h : 2 ≤ np) : (sizesOf np sh bs).length = np := by
  simp [sizesOf]; omega
theorem sizes_le {np sh bs : Nat} (hsh : sh ≤ 1) (hbs3 : bs ≤ 3) : ∀ n ∈ sizesOf np sh bs, n ≤ 4 := by
  intro n hn
  simp only [sizesOf, List.mem_append, List.mem_replicate, List.mem_singleton] at hn
  omega
theorem pow_bound {np k : Nat} (hnp4 : np ≤ 4) (hk : k ≤ 15) : 0 ≤ ((np : Int) ^ k) ∧ ((np : Int) ^ k) < 2 ^ 34 := by
  have h : np ^ k ≤ 4 ^ 15 := Nat.le_trans (Nat.pow_le_pow_left hnp4 k) (Nat.pow_le_pow_right (by decide) hk)
  have e : ((np : Int) ^ k) = ((np ^ k : Nat) : Int) := by push_cast; rfl
  rw [e]
  have : (4 : Nat) ^ 15 = 1073741824 := by decide
  omega
theorem prs_keep {g h : Heap} {L : Addr} {pre tl tl' : List (Addr × Obj)} {vs : List Value} {qs : List (Int × Int)} (N : News g L h (pre ++ tl)) (h37 : ∃ ps : Array Value, (37, tabObj ps) ∈ tl) (h44 : ∃ ps : Array Value, (44, tabObj ps) ∈ tl) (hs : ∀ p ∈ tl, p.1 ≠ 37 → p.1 ≠ 44 → p ∈ tl') (x : Prs tl vs qs) : Prs tl' vs qs := by
  induction x with
  | nil => exact .nil
  | cons a t ih =>
    refine .cons ?_ ih
    obtain ⟨T, c, t1, t2, e, hm⟩ := a
    have ne : ∀ {a : Addr} {ps : Array Value}, (a, tabObj ps) ∈ tl → T ≠ a := fun {a ps} ha q => by
      subst q
      have q1 := (N _ (List.mem_append_right pre ha)).1
      have q2 := (N _ (List.mem_append_right pre hm)).1
      dsimp only at q1 q2
      rw [q1] at q2
      have := congrArg Obj.data (Option.some.inj q2)
      cases this
    exact ⟨T, c, t1, t2, e, hs _ hm (ne h37.choose_spec) (ne h44.choose_spec)⟩
theorem tabs_in {w : World} {tl : List (Addr × Obj)} {ps : Array Value} (h : ColdT tl ps ∨ WarmT w tl ps) : (∃ ps : Array Value, (37, tabObj ps) ∈ tl) ∧ (∃ ps : Array Value, (44, tabObj ps) ∈ tl) := by
  rcases h with ⟨_, tl0, rfl, _⟩ | h
  · exact ⟨⟨#[], List.mem_append_left _ (.head _)⟩, ⟨#[], List.mem_append_left _ (.tail _ (.head _))⟩⟩
  · obtain ⟨c1, c2, oc1, oc2, a, b, _⟩ := h.wm
    exact ⟨⟨_, a⟩, ⟨_, b⟩⟩
theorem over_ne {m : Str → Option Value} {k k' : Str} {v : Option Value} (h : k' ≠ k) : (fun y => if y = k then v else m y) k' = m k' := if_neg h
theorem over_eq {m : Str → Option Value} {k : Str} {v : Option Value} : (fun y => if y = k then v else m y) k = v := if_pos rfl
theorem T_body {w : World} {p : Program} {loose : List Str} {mean : ExcName → Option Value} {mg mb : Str → Option Value} {g₀ g : Heap} (G : Gd w p loose mean mg mb g₀) (sg : Sub g₀ g)
   {L fa : Addr} {cd : Value} {zA fA : Addr} {ez ef : Nat} {oP oF oC oA oZ : Obj} {ps : Array Value} {zs fs : List Value} {tl : List (Addr × Obj)} {m : Str → Option Value}
   {dp un : Nat} {fr : Option (List Env)} {gd : Option (List Code)} {s : Shared} {E : Value → Shared → Prop} {Q : Flow → Shared → Prop}
   (hdp : dp + 400 < recursionLimit) (hun : un + 2000 < cLine)
   (F : Fr g L s.heap m) (N : News g L s.heap ((L + 1 + 1 + 1 + 1 + 1, oP) :: (L + 1 + 1 + 1 + 1, oF) :: (L + 1 + 1 + 1, oC) :: (L + 1 + 1, oA) :: (L + 1, oZ) :: (zA, listOf zs.toArray ez) :: (fA, listOf fs.toArray ef) :: (65, tabObj ps) :: tl))
   {np sh bs k : Nat} {crd : Nat → Int} {tp ta : Tok} {dk : Addr} {ed : Nat} (hnp2 : 2 ≤ np) (hnp4 : np ≤ 4) (hsh : sh ≤ 1) (hbs2 : 2 ≤ bs) (hbs3 : bs ≤ 3)
   (hoA : oA.data = .cell (some (.int ((aroundOf np sh bs : Nat) : Int) ta))) (hoF : oF.data = .cell (some (.ref fA))) (hoZ : oZ.data = .cell (some (.ref zA))) (hzs : IntsAre zs ((sizesOf np sh bs).map fun (n : Nat) => (n : Int))) (h65 : @LT.lt Nat _ 65 L) (hzL : @LT.lt Nat _ L zA) (hfL : @Ne Nat fA 37 ∧ @Ne Nat fA 44 ∧ @Ne Nat fA 65) (hzA5 : @Ne Nat zA (L + 1 + 1 + 1 + 1 + 1)) (hfA5 : @Ne Nat fA (L + 1 + 1 + 1 + 1 + 1)) (hfl : fs.length = sizeOf' np sh bs) {td : Tok} {vP : Option Value} (hk : k < sizeOf' np sh bs)
   (hmp : m (Str.ofString "piles") = some (.int (np : Int) tp)) (hmk : m (Str.ofString "deals") = some (.int (1 + (k : Int)) td)) (hmdk : m (Str.ofString "deck") = some (.ref dk)) (hoP : oP.data = .cell vP)
   (hdk : (dk, listOf ((permAt np (sizeOf' np sh bs) k).map fun j => fs.getD j .none).toArray ed) ∈ (L + 1 + 1 + 1 + 1 + 1, oP) :: (L + 1 + 1 + 1 + 1, oF) :: (L + 1 + 1 + 1, oC) :: (L + 1 + 1, oA) :: (L + 1, oZ) :: (zA, listOf zs.toArray ez) :: (fA, listOf fs.toArray ef) :: (65, tabObj ps) :: tl) (hst : ColdT tl ps ∨ WarmT w tl ps) (htl0 : TlOff L tl) (hpf : Prs tl fs (fpsOf (sizeOf' np sh bs) crd))
   (hret0 : ∀ D2 e2 oP' ps' tl' m' h' tk', Fr g L h' m' → m' (Str.ofString "piles") = some (.int (np : Int) tp) → m' (Str.ofString "deck") = some (.ref D2) → News g L h' ((L + 1 + 1 + 1 + 1 + 1, oP') :: (L + 1 + 1 + 1 + 1, oF) :: (L + 1 + 1 + 1, oC) :: (L + 1 + 1, oA) :: (L + 1, oZ) :: (zA, listOf zs.toArray ez) :: (fA, listOf fs.toArray ef) :: (65, tabObj ps') :: tl') → (∃ v, oP'.data = .cell v) →
     (D2, listOf ((permAt np (sizeOf' np sh bs) (k + 1)).map fun j => fs.getD j .none).toArray e2) ∈ tl' → WarmT w tl' ps' → (∀ p ∈ tl, p.1 ≠ 37 → p.1 ≠ 44 → p ∈ tl') → TlOff L tl' → Prs tl' fs (fpsOf (sizeOf' np sh bs) crd) → backOf np sh bs (k + 1) = false → Q .next { s with heap := h', toks := tk' })
   (hret1 : ∀ oP' ps' tl' m' h' tk', Fr g L h' m' → News g L h' ((L + 1 + 1 + 1 + 1 + 1, oP') :: (L + 1 + 1 + 1 + 1, oF) :: (L + 1 + 1 + 1, oC) :: (L + 1 + 1, oA) :: (L + 1, oZ) :: (zA, listOf zs.toArray ez) :: (fA, listOf fs.toArray ef) :: (65, tabObj ps') :: tl') → WarmT w tl' ps' → Q (.ret (.bool true)) { s with heap := h', toks := tk' }) :
   wpAny (model PySem.Challenge.rw_ph0093_01.row.prog w) ((AA dp un fr gd).deeper (lEnv w.params L fa cd)) (execs [(lawLit w.params).1.b1, (lawLit w.params).1.b2, (lawLit w.params).1.b3, (lawLit w.params).1.b4, (lawLit w.params).1.b5, (lawLit w.params).1.b6, (lawLit w.params).1.b7, (lawLit w.params).1.b8, (lawLit w.params).1.b9] (lEnv w.params L fa cd)) Q E s := by
  have C : Chk np sh bs := chk_is hnp2 hnp4 hsh hbs2 hbs3
  obtain ⟨n4, n15, ar1, arn⟩ := cfg_bounds hnp2 hnp4 hsh hbs2 hbs3
  have hpl := permAt_len C.len
  have hplt := permAt_lt (np := np) (n := sizeOf' np sh bs) (by omega) C.len
  have hdl : ((permAt np (sizeOf' np sh bs) k).map fun j => fs.getD j .none).length = sizeOf' np sh bs := by rw [List.length_map, hpl]
  refine wpAny_execs_cons ?_
  refine T_a G sg (by omega) (by omega) F N hmdk hmp hnp2 hnp4 (by omega) (by omega) hdk hst htl0 h65 hzL hfL ?_
  intro D its e1 tl1 ps1 h1 tk1 F1 N1 hw1 hs1 ho1 hD1 hsp1 hk1
  have hpf1 := prs_keep (pre := [_, _, _, _, _, _, _, _]) N (tabs_in hst).1 (tabs_in hst).2 hs1 hpf
  have hil : its.length = sizeOf' np sh bs := by
    have := congrArg List.length hk1
    rw [dealKeys_eq, hdl, List.length_map, List.length_map, C.len] at this
    exact this
  dsimp only
  refine wpAny_execs_cons ?_
  refine T_b G sg F1 (by exact if_pos rfl) (by repeat' first | exact hmp | exact if_pos rfl | refine (if_neg (by decide)).trans ?_) N1 hoZ hD1 hsp1 (by omega) hzs (sizes_len np sh bs hnp2) hnp4 (sizes_le hsh hbs3) (told_ok C hk1 hdl) (by omega) (by omega) ?_
  intro h2 tk2 F2 N2
  dsimp only
  refine wpAny_execs_cons ?_
  refine T_c G sg F2 (by exact if_pos rfl) N2 hD1 hsp1 (by omega) (by omega) (by omega) ?_
  intro D2 h3 tk3 F3 N3 nD65 nD5
  rw [card_ok (fs := fs) C hk1 rfl] at N3
  have ho3 : TlOff L ((D2, listOf ((permAt np (sizeOf' np sh bs) (k + 1)).map fun j => fs.getD j .none).toArray its.length) :: tl1) := List.forall_mem_cons.mpr ⟨⟨nD65, nD5⟩, ho1⟩
  dsimp only
  refine wpAny_execs_cons ?_
  refine T_d G sg (by omega) (by omega) F3 N3 (by repeat' first | exact hmp | exact if_pos rfl | refine (if_neg (by decide)).trans ?_) (by repeat' first | exact hmk | exact if_pos rfl | refine (if_neg (by decide)).trans ?_) hnp4 (by omega) hoP ho3 hzA5 hfA5 h65 ?_
  intro oP4 t4 h4 tk4 F4 N4 hoP4
  have pb := pow_bound (np := np) (k := k + 1) hnp4 (by omega)
  dsimp only
  refine wpAny_execs_cons ?_
  refine T_e G sg (by omega) (by omega) F4 N4 hoA hoP4 hoF ar1 (by omega) (by omega) (by omega) pb.1 pb.2 (hw1.wm.sub fun p hp => .tail _ hp) ho3 h65 ?_
  intro D3 tl5 ys5 h5 tk5 F5 N5 hD5 hys5 hs5 ho5 hw5
  have hpf5 : Prs tl5 fs (fpsOf (sizeOf' np sh bs) crd) := prs_sub (fun p hp => hs5 p (.tail _ hp)) hpf1
  have hys : ys5 = (dueOf np sh bs (k + 1)).map fun j => fs.getD j .none := by
    rw [hys5, dueOf, List.map_map]
    apply List.map_congr_left
    intro p _
    simp only [Function.comp]
    rw [due_val]
  have hdue : ∀ x ∈ dueOf np sh bs (k + 1), x < sizeOf' np sh bs := by
    intro x hx
    simp only [dueOf, List.mem_map] at hx
    obtain ⟨p, _, rfl⟩ := hx
    exact Nat.lt_of_lt_of_le (Nat.mod_lt _ (by omega)) arn
  have hyp : Prs tl5 ys5 ((dueOf np sh bs (k + 1)).map fun (j : Nat) => ((j : Int), crd j)) := by
    rw [hys]; exact prs_perm hpf5 hdue
  have hdp5 : Prs tl5 ((permAt np (sizeOf' np sh bs) (k + 1)).map fun j => fs.getD j .none) ((permAt np (sizeOf' np sh bs) (k + 1)).map fun (j : Nat) => ((j : Int), crd j)) := prs_perm hpf5 (hplt (k + 1))
  dsimp only
  refine wpAny_execs_cons ?_
  refine T_f G sg (by omega) (by omega) F5 N5 (by repeat' first | exact rfl | exact if_pos rfl | refine (if_neg (by decide)).trans ?_) (by exact if_pos rfl) hoA hoF (by omega) (by rw [hys, List.length_map, dueOf, List.length_map, List.length_range]; omega) (hs5 _ (.head _)) hD5 hdp5 hyp hpf5 ?_ ?_
  · rw [C.due k hk, List.map_append, List.map_drop]; rfl
  intro h6 tk6 F6 N6
  dsimp only
  refine wpAny_execs_cons ?_
  refine T_g G sg (by omega) (by omega) F6 N6 hoA hoP4 ar1 (by omega) pb.1 pb.2 hw5 ho5 ?_
  intro tl7 h7 tk7 F7 N7 hs7 ho7 hw7
  rw [back_val] at F7
  dsimp only
  refine wpAny_execs_cons ?_
  refine T_h G sg (by omega) (by omega) F7 N7 (by repeat' first | exact rfl | exact if_pos rfl | refine (if_neg (by decide)).trans ?_) (by exact if_pos rfl) hoF (hs7 _ (hs5 _ (.head _))) (prs_sub hs7 hdp5) (prs_sub hs7 hpf5) ?_ ?_
  · have hb := C.back k hk
    unfold backOf at hb
    rw [← hb]
    constructor
    · intro h
      exact map_pair_inj h
    · intro h
      rw [h]; rfl
  intro h8 tk8 F8 N8
  have hwT : WarmT w tl7 ps1 := ⟨hw7, let ⟨c, a, b⟩ := hw1.l; ⟨c, a, b.sub fun p hp => hs7 p (hs5 p (.tail _ hp))⟩⟩
  dsimp only
  refine wpAny_execs_cons ?_
  refine T_i G sg (by omega) (by omega) F8 N8 (by exact if_pos rfl) ?_ ?_
  · intro h9 tk9 hb9 F9 N9
    dsimp only
    refine wpAny_execs_nil ?_
    exact hret0 D2 _ oP4 ps1 tl7 _ h9 tk9 F9 (by repeat' first | exact hmp | exact if_pos rfl | refine (if_neg (by decide)).trans ?_) (by repeat' first | exact rfl | exact if_pos rfl | refine (if_neg (by decide)).trans ?_) N9 ⟨_, hoP4⟩ (hs7 _ (hs5 _ (.head _))) hwT (fun p hp a1 a2 => hs7 p (hs5 p (.tail _ (hs1 p hp a1 a2)))) ho7 (prs_sub hs7 hpf5) hb9
  · intro h9 tk9 _ F9 N9
    exact hret1 oP4 ps1 tl7 _ h9 tk9 F9 N9 hwT
end
section -- E7
set_option maxHeartbeats 1000000
theorem filt_mem {g h : Heap} {L I : Addr} {pre tl : List (Addr × Obj)} {it : Obj} (N : News g L h (pre ++ tl)) (hI : (I, it) ∈ tl) {p : Addr × Obj} (hp : p ∈ tl) (hd : p.2.data ≠ it.data) : p ∈ tl.filter (fun q => q.1 != I) := by
  refine List.mem_filter.mpr ⟨hp, ?_⟩
  simp only [bne_iff_ne, ne_eq]
  intro e
  have q1 := (N _ (List.mem_append_right pre hI)).1
  have q2 := (N _ (List.mem_append_right pre hp)).1
  rw [e] at q2
  dsimp only at q1
  rw [q1] at q2
  exact hd (congrArg Obj.data (Option.some.inj q2)).symm
section
variable {w : World} {g h : Heap} {L I : Addr} {pre tl : List (Addr × Obj)} {it : Obj} (N : News g L h (pre ++ tl)) (hI : (I, it) ∈ tl) (hit : ∃ x y z : Int, it.data = .fields #[rawInt x, rawInt y, rawInt z])
include N hI hit
theorem filt_prs {vs : List Value} {qs : List (Int × Int)} (x : Prs tl vs qs) : Prs (tl.filter (fun q => q.1 != I)) vs qs := by
  induction x with
  | nil => exact .nil
  | cons a t ih =>
    obtain ⟨T, c, t1, t2, e, hm⟩ := a
    refine .cons ⟨T, c, t1, t2, e, filt_mem N hI hm ?_⟩ ih
    obtain ⟨x, y, z, e⟩ := hit
    rw [e]; intro q; cases q
theorem filt_code {c : Addr} {oc : Obj} {vs : Array Value} {q : Str} {t : Tok} (hm : (c, oc) ∈ tl) (hd : oc.data = .fields vs) (hv : vs[1]? = some (.str q t)) : (c, oc) ∈ tl.filter (fun q => q.1 != I) := by
  refine filt_mem N hI hm ?_
  obtain ⟨x, y, z, e⟩ := hit
  rw [e]
  dsimp only
  rw [hd]
  intro q
  cases q
  simp [rawInt] at hv
theorem filt_warm {ps : Array Value} (h37 : I ≠ 37) (h44 : I ≠ 44) (x : WarmT w tl ps) : WarmT w (tl.filter (fun q => q.1 != I)) ps := by
  obtain ⟨⟨c1, c2, oc1, oc2, a, b, c, d, e, f⟩, ⟨c3, e3, oc3, vs3, t3, a3, d3, v3⟩⟩ := x
  have fa : ∀ {a : Addr} {o : Obj}, (a, o) ∈ tl → I ≠ a → (a, o) ∈ tl.filter (fun q => q.1 != I) := fun hm hne => List.mem_filter.mpr ⟨hm, by simpa using Ne.symm hne⟩
  obtain ⟨vs1, t1, d1, v1⟩ := e
  obtain ⟨vs2, t2, d2, v2⟩ := f
  exact ⟨⟨c1, c2, oc1, oc2, fa a h37, fa b h44, filt_code N hI hit c d1 v1, filt_code N hI hit d d2 v2, ⟨vs1, t1, d1, v1⟩, ⟨vs2, t2, d2, v2⟩⟩, ⟨c3, e3, oc3, vs3, t3, filt_code N hI hit a3 d3 v3, d3, v3⟩⟩
end
theorem T_loop {w : World} {p : Program} {loose : List Str} {mean : ExcName → Option Value} {mg mb : Str → Option Value} {g₀ g : Heap} (G : Gd w p loose mean mg mb g₀) (sg : Sub g₀ g)
   {L fa : Addr} {cd : Value} {zA fA : Addr} {ez ef : Nat} {oP oF oC oA oZ : Obj} {ps : Array Value} {zs fs : List Value} {tl : List (Addr × Obj)} {m : Str → Option Value}
   {dp un : Nat} {fr : Option (List Env)} {gd : Option (List Code)} {s : Shared} {E : Value → Shared → Prop} {Q : Flow → Shared → Prop}
   (hdp : dp + 400 < recursionLimit) (hun : un + 2000 < cLine)
   (F : Fr g L s.heap m) (N : News g L s.heap ((L + 1 + 1 + 1 + 1 + 1, oP) :: (L + 1 + 1 + 1 + 1, oF) :: (L + 1 + 1 + 1, oC) :: (L + 1 + 1, oA) :: (L + 1, oZ) :: (zA, listOf zs.toArray ez) :: (fA, listOf fs.toArray ef) :: (65, tabObj ps) :: tl))
   {np sh bs k : Nat} {crd : Nat → Int} {tp ta : Tok} {dk : Addr} {ed : Nat} (hnp2 : 2 ≤ np) (hnp4 : np ≤ 4) (hsh : sh ≤ 1) (hbs2 : 2 ≤ bs) (hbs3 : bs ≤ 3)
   (hoA : oA.data = .cell (some (.int ((aroundOf np sh bs : Nat) : Int) ta))) (hoF : oF.data = .cell (some (.ref fA))) (hoZ : oZ.data = .cell (some (.ref zA))) (hzs : IntsAre zs ((sizesOf np sh bs).map fun (n : Nat) => (n : Int))) (h65 : @LT.lt Nat _ 65 L) (hzL : @LT.lt Nat _ L zA) (hfL : @Ne Nat fA 37 ∧ @Ne Nat fA 44 ∧ @Ne Nat fA 65) (hzA5 : @Ne Nat zA (L + 1 + 1 + 1 + 1 + 1)) (hfA5 : @Ne Nat fA (L + 1 + 1 + 1 + 1 + 1)) (hfl : fs.length = sizeOf' np sh bs) {vP : Option Value} {tz : Tok}
   (hmp : m (Str.ofString "piles") = some (.int (np : Int) tp)) (hms : m (Str.ofString "size") = some (.int ((sizeOf' np sh bs : Nat) : Int) tz)) (hmdk : m (Str.ofString "deck") = some (.ref dk)) (hoP : oP.data = .cell vP)
   (hdk : (dk, listOf ((permAt np (sizeOf' np sh bs) 0).map fun j => fs.getD j .none).toArray ed) ∈ (L + 1 + 1 + 1 + 1 + 1, oP) :: (L + 1 + 1 + 1 + 1, oF) :: (L + 1 + 1 + 1, oC) :: (L + 1 + 1, oA) :: (L + 1, oZ) :: (zA, listOf zs.toArray ez) :: (fA, listOf fs.toArray ef) :: (65, tabObj ps) :: tl) (hst : ColdT tl ps) (htl0 : TlOff L tl) (hpf : Prs tl fs (fpsOf (sizeOf' np sh bs) crd))
   (hE : PassesOwn (model PySem.Challenge.rw_ph0093_01.row.prog w) ((AA dp un fr gd).deeper (lEnv w.params L fa cd)) (lEnv w.params L fa cd) E)
   (hret1 : ∀ oP' ps' tl' m' h' tk', Fr g L h' m' → News g L h' ((L + 1 + 1 + 1 + 1 + 1, oP') :: (L + 1 + 1 + 1 + 1, oF) :: (L + 1 + 1 + 1, oC) :: (L + 1 + 1, oA) :: (L + 1, oZ) :: (zA, listOf zs.toArray ez) :: (fA, listOf fs.toArray ef) :: (65, tabObj ps') :: tl') → WarmT w tl' ps' → Q (.ret (.bool true)) { s with heap := h', toks := tk' }) :
   wpAny (model PySem.Challenge.rw_ph0093_01.row.prog w) ((AA dp un fr gd).deeper (lEnv w.params L fa cd)) (exec (.For (lawLit w.params).1.tgt (lawLit w.params).1.iter [(lawLit w.params).1.b1, (lawLit w.params).1.b2, (lawLit w.params).1.b3, (lawLit w.params).1.b4, (lawLit w.params).1.b5, (lawLit w.params).1.b6, (lawLit w.params).1.b7, (lawLit w.params).1.b8, (lawLit w.params).1.b9] [] (lawLit w.params).1.fpos) (lEnv w.params L fa cd)) Q E s := by
  have X := G.X
  have T := G.T
  revert X; k_fill; intro X
  have X' := X.keeps sg
  have T' := T.keeps sg
  have C : Chk np sh bs := chk_is hnp2 hnp4 hsh hbs2 hbs3
  obtain ⟨n4, n15, ar1, arn⟩ := cfg_bounds hnp2 hnp4 hsh hbs2 hbs3
  have hms' := chain1 hms
  have F0 := F
  rw [hms'] at F
  refine For_any (hE := hE) ?_
  dsimp only [lEnv]
  change Fr g L s.heap _ at F
  clear F0
  have hiter : (lawLit w.params).1.iter = (lawLit w.params).1.iter := rfl
  conv at hiter => rhs; dsimp only [lawLit]
  rw [hiter]
  have hscope : (lawLit w.params).1.scope = (lawLit w.params).1.scope := rfl
  conv at hscope => rhs; dsimp only [lawLit]
  rw [hscope]
  (try k_fold)
  k_steps
  rename Fr _ _ _ _ => F1
  rename News _ _ _ _ => N1
  rename IsRange _ _ _ _ _ _ _ _ => hr
  rw [← hms'] at F1
  have hsm : Builtin.Range.small 1 (((sizeOf' np sh bs : Nat) : Int) + 1) 1 = true := small_one (by omega) (by omega) (by omega) (by omega)
  have hsz : Builtin.Range.rangeSize 1 (((sizeOf' np sh bs : Nat) : Int) + 1) 1 = ((sizeOf' np sh bs : Nat) : Int) := by rw [rangeSize_one]; split <;> omega
  have hN1 := fun p hp => Heap.lt_size (N1 p hp).1
  rename_i hq tkq t1q t2q t3q t4q
  refine iter_rangeW (n := sizeOf' np sh bs) (fun i m nw => ∃ oP ps tl dk ed, nw = (L + 1 + 1 + 1 + 1 + 1, oP) :: (L + 1 + 1 + 1 + 1, oF) :: (L + 1 + 1 + 1, oC) :: (L + 1 + 1, oA) :: (L + 1, oZ) :: (zA, listOf zs.toArray ez) :: (fA, listOf fs.toArray ef) :: (65, tabObj ps) :: tl ∧ (∃ vP, oP.data = .cell vP) ∧ m (Str.ofString "piles") = some (.int (np : Int) tp) ∧ m (Str.ofString "deck") = some (.ref dk) ∧ (dk, listOf ((permAt np (sizeOf' np sh bs) i).map fun j => fs.getD j .none).toArray ed) ∈ (L + 1 + 1 + 1 + 1 + 1, oP) :: (L + 1 + 1 + 1 + 1, oF) :: (L + 1 + 1 + 1, oC) :: (L + 1 + 1, oA) :: (L + 1, oZ) :: (zA, listOf zs.toArray ez) :: (fA, listOf fs.toArray ef) :: (65, tabObj ps) :: tl ∧ (ColdT tl ps ∨ WarmT w tl ps) ∧ TlOff L tl ∧ Prs tl fs (fpsOf (sizeOf' np sh bs) crd) ∧ (∀ j, j < i → backOf np sh bs (j + 1) = false) ∧ (∀ p ∈ tl, p.1 ≠ hq.objs.size)) rfl hr hsm hsz F1 N1 ?_ ?_ ?_ ?_
  · exact ⟨oP, ps, tl, dk, ed, rfl, ⟨_, hoP⟩, hmp, hmdk, hdk, .inl hst, htl0, hpf, fun j hj => absurd hj (Nat.not_lt_zero _), fun p hp => Nat.ne_of_lt (hN1 p (.tail _ (.tail _ (.tail _ (.tail _ (.tail _ (.tail _ (.tail _ (.tail _ hp)))))))))⟩
  · rintro i m nw ⟨oP1, ps1, tl1, dk1, ed1, rfl, _, _, _, _, _, _, _, _, off⟩ p hp
    simp only [List.mem_cons] at hp
    rcases hp with rfl | rfl | rfl | rfl | rfl | rfl | rfl | rfl | hp
    · exact Nat.ne_of_lt (hN1 (_, oP) (.head _))
    · exact Nat.ne_of_lt (hN1 _ (.tail _ (.head _)))
    · exact Nat.ne_of_lt (hN1 _ (.tail _ (.tail _ (.head _))))
    · exact Nat.ne_of_lt (hN1 _ (.tail _ (.tail _ (.tail _ (.head _)))))
    · exact Nat.ne_of_lt (hN1 _ (.tail _ (.tail _ (.tail _ (.tail _ (.head _))))))
    · exact Nat.ne_of_lt (hN1 _ (.tail _ (.tail _ (.tail _ (.tail _ (.tail _ (.head _)))))))
    · exact Nat.ne_of_lt (hN1 _ (.tail _ (.tail _ (.tail _ (.tail _ (.tail _ (.tail _ (.head _))))))))
    · exact Nat.ne_of_lt (hN1 (65, tabObj ps) (.tail _ (.tail _ (.tail _ (.tail _ (.tail _ (.tail _ (.tail _ (.head _)))))))))
    · exact off p hp
  · rintro i m₁ nw it h9 tk9 t9 hi ⟨oP1, ps1, tl1, dk1, ed1, rfl, ⟨vP1, hoP1⟩, hmp1, hmdk1, hdk1, hst1, ho1, hpf1, hb1, off1⟩ F2 N2 hit
    have hqL : @LT.lt Nat _ (L + 1 + 1 + 1 + 1 + 1) hq.objs.size := hN1 _ (.head _)
    refine wpAny_assign_Name (storeX_L F2 N2 (fun h10 F3 N3 => ?_))
    dsimp only at N3
    have N4 : News g L h10 ((L + 1 + 1 + 1 + 1 + 1, oP1) :: (L + 1 + 1 + 1 + 1, oF) :: (L + 1 + 1 + 1, oC) :: (L + 1 + 1, oA) :: (L + 1, oZ) :: (zA, listOf zs.toArray ez) :: (fA, listOf fs.toArray ef) :: (65, tabObj ps1) :: (tl1 ++ [(hq.objs.size, it)])) := news_sub N3 fun p hp => by
      rcases mem_or (s := (L + 1 + 1 + 1 + 1 + 1, oP1) :: (L + 1 + 1 + 1 + 1, oF) :: (L + 1 + 1 + 1, oC) :: (L + 1 + 1, oA) :: (L + 1, oZ) :: (zA, listOf zs.toArray ez) :: (fA, listOf fs.toArray ef) :: (65, tabObj ps1) :: tl1) (t := [(hq.objs.size, it)]) hp with h | h
      · exact .tail _ h
      · rw [List.mem_singleton.mp h]; exact .head _
    refine T_body (crd := crd) G sg hdp hun F3 N4 hnp2 hnp4 hsh hbs2 hbs3 hoA hoF hoZ hzs h65 hzL hfL hzA5 hfA5 hfl hi ((if_neg (by decide)).trans hmp1) (if_pos rfl) ((if_neg (by decide)).trans hmdk1) hoP1 (dk := dk1) (ed := ed1) ?_ ?_ ?_ (prs_sub (fun p hp => List.mem_append_left _ hp) hpf1) ?_ ?_
    · exact List.mem_append_left [(hq.objs.size, it)] hdk1
    · rcases hst1 with ⟨e, tl0, e2, h0⟩ | h
      · refine .inl ⟨e, tl0 ++ [(hq.objs.size, it)], by rw [e2, List.append_assoc], fun p hp => ?_⟩
        rcases List.mem_append.mp hp with hp | hp
        · exact h0 p hp
        · rw [List.mem_singleton.mp hp]; exact ⟨neN (by dsimp only; omega), neN (by dsimp only; omega)⟩
      · exact .inr (h.sub fun p hp => List.mem_append_left _ hp)
    · intro p hp
      rcases List.mem_append.mp hp with hp | hp
      · exact ho1 p hp
      · rw [List.mem_singleton.mp hp]; exact ⟨neN (by dsimp only; omega), neN (by dsimp only; omega)⟩
    · intro D2 e2 oP' ps' tl' m' h' tk' F5 hmp5 hmd5 N5 hoP5 hD5 hw5 hs5 ho5 hpf5 hb5
      have hI5 : (hq.objs.size, it) ∈ tl' := hs5 _ (List.mem_append_right _ (.head _)) (neN (by dsimp only; omega)) (neN (by dsimp only; omega))
      have fm : ∀ p ∈ tl'.filter (fun q => q.1 != hq.objs.size), p ∈ tl' := fun p hp => (List.mem_filter.mp hp).1
      refine ⟨h', tk', m', (L + 1 + 1 + 1 + 1 + 1, oP') :: (L + 1 + 1 + 1 + 1, oF) :: (L + 1 + 1 + 1, oC) :: (L + 1 + 1, oA) :: (L + 1, oZ) :: (zA, listOf zs.toArray ez) :: (fA, listOf fs.toArray ef) :: (65, tabObj ps') :: (tl'.filter (fun q => q.1 != hq.objs.size)), rfl, F5, news_sub N5 ?_, oP', ps', tl'.filter (fun q => q.1 != hq.objs.size), D2, e2, rfl, hoP5, hmp5, hmd5, ?_, .inr (filt_warm (pre := [_, _, _, _, _, _, _, _]) N5 hI5 hit (neN (by omega)) (neN (by omega)) hw5), fun p hp => ho5 p (fm p hp), filt_prs (pre := [_, _, _, _, _, _, _, _]) N5 hI5 hit hpf5, ?_, ?_⟩
      · intro p hp
        rcases List.mem_cons.mp hp with rfl | hp
        · exact List.mem_append_right [_, _, _, _, _, _, _, _] hI5
        · rcases mem_or (s := [_, _, _, _, _, _, _, _]) hp with h | h
          · exact List.mem_append_left tl' h
          · exact List.mem_append_right [_, _, _, _, _, _, _, _] (fm p h)
      · refine .tail _ (.tail _ (.tail _ (.tail _ (.tail _ (.tail _ (.tail _ (.tail _ (filt_mem (pre := [_, _, _, _, _, _, _, _]) N5 hI5 hD5 ?_))))))))
        obtain ⟨x, y, z, e⟩ := hit
        rw [e]; intro q; cases q
      · intro j hj
        rcases Nat.lt_succ_iff_lt_or_eq.mp hj with h | rfl
        · exact hb1 j h
        · exact hb5
      · intro p hp
        simpa using (List.mem_filter.mp hp).2
    · intro oP' ps' tl' m' h' tk' F5 N5 hw5
      exact hret1 oP' ps' tl' m' h' tk' F5 N5 hw5
  · rintro m' nw h' tk' ⟨oP1, ps1, tl1, dk1, ed1, rfl, _, _, _, _, _, _, _, hb, _⟩ _ _
    obtain ⟨k, hk, hk2⟩ := C.some
    rw [hb k hk] at hk2
    cases hk2
end
section -- E8
set_option maxHeartbeats 1000000
local macro_rules | `(tactic| walk_at "CompSrc") => `(tactic| (refine stop_intro ?_))
local macro_rules | `(tactic| walk_at "eval ListComp") => `(tactic| (refine stop_intro ?_))
local macro_rules | `(tactic| k_all) => `(tactic| assumption)
theorem T_first {w : World} {p : Program} {loose : List Str} {mean : ExcName → Option Value} {mg mb : Str → Option Value} {g₀ g : Heap} (G : Gd w p loose mean mg mb g₀) (sg : Sub g₀ g)
   {L fa : Addr} {cd : Value} {zA cA : Addr} {ez ec : Nat} {oP oF oC oA oZ : Obj} {zs cv : List Value} {m : Str → Option Value}
   {dp un : Nat} {fr : Option (List Env)} {gd : Option (List Code)} {s : Shared} {E : Value → Shared → Prop} {Q : Flow → Shared → Prop}
   (hdp : dp + 400 < recursionLimit) (hun : un + 2000 < cLine)
   (F : Fr g L s.heap m) (N : News g L s.heap ((L + 1 + 1 + 1 + 1 + 1, oP) :: (L + 1 + 1 + 1 + 1, oF) :: (L + 1 + 1 + 1, oC) :: (L + 1 + 1, oA) :: (L + 1, oZ) :: (zA, listOf zs.toArray ez) :: (cA, listOf cv.toArray ec) :: (65, tabObj #[]) :: (37, tabObj #[]) :: (44, tabObj #[]) :: []))
   {n : Nat} {tz : Tok} {cl : List Int} {vF : Option Value} (hms : m (Str.ofString "size") = some (.int (n : Int) tz)) (hn : n ≤ 15) (hcl : cl.length = n) (hcv : IntsAre cv cl) (hoC : oC.data = .cell (some (.ref cA))) (hoF : oF.data = .cell vF)
   (h65 : @LT.lt Nat _ 65 L) (hzL : @LT.lt Nat _ L zA) (hcL : @LT.lt Nat _ L cA) (hzA4 : @Ne Nat zA (L + 1 + 1 + 1 + 1)) (hcA4 : @Ne Nat cA (L + 1 + 1 + 1 + 1))
   (hret : ∀ fA fs ef oF' tl h' tk', Fr g L h' m → News g L h' ((L + 1 + 1 + 1 + 1 + 1, oP) :: (L + 1 + 1 + 1 + 1, oF') :: (L + 1 + 1 + 1, oC) :: (L + 1 + 1, oA) :: (L + 1, oZ) :: (zA, listOf zs.toArray ez) :: (fA, listOf fs.toArray ef) :: (65, tabObj #[]) :: tl) → oF'.data = .cell (some (.ref fA)) → fs.length = n → Prs tl fs (fpsOf n fun j => cl.getD j 0) → ColdT tl #[] → TlOff L tl → @Ne Nat fA 37 ∧ @Ne Nat fA 44 ∧ @Ne Nat fA 65 → @Ne Nat fA (L + 1 + 1 + 1 + 1 + 1) → Q .next { s with heap := h', toks := tk' }) :
   wpAny (model PySem.Challenge.rw_ph0093_01.row.prog w) ((AA dp un fr gd).deeper (lEnv w.params L fa cd)) (exec (lawLit w.params).1.s8 (lEnv w.params L fa cd)) Q E s := by
  have X := G.X
  have T := G.T
  revert X; k_fill; intro X
  have X' := X.keeps sg
  have T' := T.keeps sg
  have hmd' := chain1 hms
  have F0 := F
  rw [hmd'] at F
  dsimp only [lEnv, lawLit]
  change Fr g L s.heap _ at F
  clear F0
  (try k_fold)
  k_steps
  unfold Stop
  refine' LCg.ListComp_U F ?cl ?ce ?ki ?na ?hx ?_
  (case cl => exact rfl)
  (case ce => decide)
  (case ki => exact rfl)
  (case na => decide)
  (case hx => exact rfl)
  k_steps
  unfold Stop
  rename Fr _ _ _ _ => F1
  rename News _ _ _ _ => N1
  rename IsRange _ _ _ _ _ _ _ _ => hr
  obtain ⟨rs1, rs2, rs3⟩ := range_src (n := n) (by omega)
  refine LCg.CompSrc.range rfl F1 N1 hr rs1 rs2 rs3 fun gg => ?_
  refine compRest_inv n (fun i ys nw => ∃ tl0, nw = (L + 1 + 1 + 1 + 1 + 1, oP) :: (L + 1 + 1 + 1 + 1, oF) :: (L + 1 + 1 + 1, oC) :: (L + 1 + 1, oA) :: (L + 1, oZ) :: (zA, listOf zs.toArray ez) :: (cA, listOf cv.toArray ec) :: (65, tabObj #[]) :: (37, tabObj #[]) :: (44, tabObj #[]) :: tl0 ∧ ys.length = i ∧ Prs tl0 ys (fpsOf i fun j => cl.getD j 0) ∧ (∀ p ∈ tl0, @LT.lt Nat _ (L + 1 + 1 + 1 + 1 + 1) p.1)) ?_ ?_ n 0 [] _ (by omega) ⟨[], rfl, rfl, .nil, fun _ h => nomatch h⟩
  · rintro i ys nw v I oI C oC' B m₂ h tk E' hi ⟨tl0, rfl, hyl, hys, hn0⟩ ⟨tv, rfl⟩ hC hx F N off
    rw [Int.zero_add] at hx
    have hICD : I < h.objs.size ∧ C < h.objs.size ∧ B < h.objs.size := ⟨Heap.lt_size (N _ (.head _)).1, Heap.lt_size (N _ (.tail _ (.head _))).1, Heap.lt_size (N _ (.tail _ (.tail _ (.head _)))).1⟩
    k_steps
    rename Fr _ _ _ _ => F9
    rename News _ _ _ _ => N9
    rename_i t10 T10 h10 l10
    refine ⟨_, _, (L + 1 + 1 + 1 + 1 + 1, oP) :: (L + 1 + 1 + 1 + 1, oF) :: (L + 1 + 1 + 1, oC) :: (L + 1 + 1, oA) :: (L + 1, oZ) :: (zA, listOf zs.toArray ez) :: (cA, listOf cv.toArray ec) :: (65, tabObj #[]) :: (37, tabObj #[]) :: (44, tabObj #[]) :: (T10, tupO [.int (i : Int) tv, .int (cl.getD ((i : Int)).toNat 0) t10] 0) :: tl0, rfl, F9, news_sub N9 ?_, ?_, trivial, (T10, _) :: tl0, rfl, ?_, ?_, ?_⟩
    · intro p hp
      exact mem_mid (pre := [_, _, _, _, _, _, _, _, _, _, _, _, _]) hp
    · intro p hp
      have hp' := List.mem_cons.mp (mem_mid (pre := [_, _, _, _, _, _, _, _, _, _]) hp)
      rcases hp' with h | h
      · rw [h]; exact ⟨neN (by omega), neN (by omega), neN (by omega)⟩
      · exact off p h
    · rw [List.length_append, List.length_singleton, hyl]
    · unfold fpsOf
      rw [List.range_succ, List.map_append]
      exact (prs_sub (fun p hp => .tail _ hp) hys).snoc ⟨T10, _, _, _, rfl, .head _⟩
    · intro p hp
      rcases List.mem_cons.mp hp with rfl | hp
      · dsimp only; omega
      · exact hn0 p hp
  · rintro ys nw ⟨tl0, rfl, hyl, hys, hn0⟩
    intro B h8 tk8 F8 N8 off8
    have o := off1_mem off8
    simp only [LCg.Off1] at off8
    have hl4 : ∀ p ∈ tl0, p.1 ≠ L + 1 + 1 + 1 + 1 := fun p hp => neN (by have := hn0 p hp; omega)
    have hBL4 : @Ne Nat B (L + 1 + 1 + 1 + 1) := Ne.symm (o _ (.tail _ (.head _)))
    k_steps
    rename Fr _ _ _ _ => F9
    rename News _ _ _ _ => N9
    rename_i hcell
    rw [← hmd'] at F9
    refine hret B ys n _ ((37, tabObj #[]) :: (44, tabObj #[]) :: tl0) _ _ F9 (news_sub N9 ?_) hcell hyl (prs_sub (fun p hp => .tail _ (.tail _ hp)) hys) ⟨rfl, tl0, rfl, fun p hp => ⟨neN (by have := hn0 p hp; omega), neN (by have := hn0 p hp; omega)⟩⟩ ?_ ⟨?_, ?_, ?_⟩ ?_
    · intro p hp
      rcases List.mem_cons.mp (mem_mid (pre := [_, _, _, _, _, _]) hp) with rfl | hp
      · rw [← lst_eq hyl]; exact .head _
      · exact .tail _ (mem_ins (pre := [_, _, _, _, _, _]) hp)
    · refine List.forall_mem_cons.mpr ⟨⟨show 37 ≠ 65 by decide, neN (by omega)⟩, List.forall_mem_cons.mpr ⟨⟨show 44 ≠ 65 by decide, neN (by omega)⟩, fun p hp => ⟨neN (by have := hn0 p hp; omega), neN (by have := hn0 p hp; omega)⟩⟩⟩
    · exact Ne.symm (o (37, tabObj #[]) (by simp))
    · exact Ne.symm (o (44, tabObj #[]) (by simp))
    · exact Ne.symm (o (65, tabObj #[]) (by simp))
    · exact Ne.symm (o _ (.head _))
theorem T_deck {w : World} {p : Program} {loose : List Str} {mean : ExcName → Option Value} {mg mb : Str → Option Value} {g₀ g : Heap} (G : Gd w p loose mean mg mb g₀) (sg : Sub g₀ g)
   {L fa : Addr} {cd : Value} {zA fA : Addr} {ez ef : Nat} {oP oF oC oA oZ : Obj} {ps : Array Value} {zs fs : List Value} {tl : List (Addr × Obj)} {m : Str → Option Value}
   {dp un : Nat} {fr : Option (List Env)} {gd : Option (List Code)} {s : Shared} {E : Value → Shared → Prop} {Q : Flow → Shared → Prop}
   (hdp : dp + 400 < recursionLimit) (hun : un + 2000 < cLine)
   (F : Fr g L s.heap m) (N : News g L s.heap ((L + 1 + 1 + 1 + 1 + 1, oP) :: (L + 1 + 1 + 1 + 1, oF) :: (L + 1 + 1 + 1, oC) :: (L + 1 + 1, oA) :: (L + 1, oZ) :: (zA, listOf zs.toArray ez) :: (fA, listOf fs.toArray ef) :: (65, tabObj ps) :: tl))
   (hoF : oF.data = .cell (some (.ref fA)))
   (hret : ∀ h' tk', Fr g L h' (fun y => if y = Str.ofString "deck" then some (.ref fA) else m y) → News g L h' ((L + 1 + 1 + 1 + 1 + 1, oP) :: (L + 1 + 1 + 1 + 1, oF) :: (L + 1 + 1 + 1, oC) :: (L + 1 + 1, oA) :: (L + 1, oZ) :: (zA, listOf zs.toArray ez) :: (fA, listOf fs.toArray ef) :: (65, tabObj ps) :: tl) → Q .next { s with heap := h', toks := tk' }) :
   wpAny (model PySem.Challenge.rw_ph0093_01.row.prog w) ((AA dp un fr gd).deeper (lEnv w.params L fa cd)) (exec (lawLit w.params).1.s9 (lEnv w.params L fa cd)) Q E s := by
  have X := G.X
  have T := G.T
  revert X; k_fill; intro X
  have X' := X.keeps sg
  have T' := T.keeps sg
  have hmd' := chain1 (m := m) (k1 := Str.ofString "deck") rfl
  have F0 := F
  rw [hmd'] at F
  dsimp only [lEnv, lawLit]
  change Fr g L s.heap _ at F
  clear F0
  (try k_fold)
  k_steps
  rename Fr _ _ _ _ => F9
  rename News _ _ _ _ => N9
  exact hret _ _ (fr_over hmd' F9) N9
theorem law_rest {w : World} {p : Program} {loose : List Str} {mean : ExcName → Option Value} {mg mb : Str → Option Value} {g₀ g : Heap} (G : Gd w p loose mean mg mb g₀) (sg : Sub g₀ g)
   {L fa : Addr} {cd : Value} {zA cA : Addr} {ez ec : Nat} {oP oF oC oA oZ : Obj} {zs cv : List Value} {m : Str → Option Value}
   {dp un : Nat} {fr : Option (List Env)} {gd : Option (List Code)} {s : Shared} {E : Value → Shared → Prop} {Q : Flow → Shared → Prop}
   (hdp : dp + 400 < recursionLimit) (hun : un + 2000 < cLine)
   (F : Fr g L s.heap m) (N : News g L s.heap ((L + 1 + 1 + 1 + 1 + 1, oP) :: (L + 1 + 1 + 1 + 1, oF) :: (L + 1 + 1 + 1, oC) :: (L + 1 + 1, oA) :: (L + 1, oZ) :: (zA, listOf zs.toArray ez) :: (cA, listOf cv.toArray ec) :: (65, tabObj #[]) :: (37, tabObj #[]) :: (44, tabObj #[]) :: []))
   {np sh bs : Nat} {tp ta tz : Tok} {cl : List Int} {vF vP : Option Value} (hnp2 : 2 ≤ np) (hnp4 : np ≤ 4) (hsh : sh ≤ 1) (hbs2 : 2 ≤ bs) (hbs3 : bs ≤ 3)
   (hmp : m (Str.ofString "piles") = some (.int (np : Int) tp)) (hms : m (Str.ofString "size") = some (.int ((sizeOf' np sh bs : Nat) : Int) tz)) (hcl : cl.length = sizeOf' np sh bs) (hcv : IntsAre cv cl) (hzs : IntsAre zs ((sizesOf np sh bs).map fun (n : Nat) => (n : Int)))
   (hoZ : oZ.data = .cell (some (.ref zA))) (hoA : oA.data = .cell (some (.int ((aroundOf np sh bs : Nat) : Int) ta))) (hoC : oC.data = .cell (some (.ref cA))) (hoF : oF.data = .cell vF) (hoP : oP.data = .cell vP)
   (h65 : @LT.lt Nat _ 65 L) (hzL : @LT.lt Nat _ (L + 1 + 1 + 1 + 1 + 1) zA) (hcL : @LT.lt Nat _ (L + 1 + 1 + 1 + 1 + 1) cA)
   (hE : PassesOwn (model PySem.Challenge.rw_ph0093_01.row.prog w) ((AA dp un fr gd).deeper (lEnv w.params L fa cd)) (lEnv w.params L fa cd) E)
   (hret : ∀ nl ps' tl' m' h' tk', Fr g L h' m' → News g L h' (nl ++ (65, tabObj ps') :: tl') → WarmT w tl' ps' → Q (.ret (.bool true)) { s with heap := h', toks := tk' }) :
   wpAny (model PySem.Challenge.rw_ph0093_01.row.prog w) ((AA dp un fr gd).deeper (lEnv w.params L fa cd)) (execs ((lawLit w.params).1.s8 :: (lawLit w.params).1.s9 :: .For (lawLit w.params).1.tgt (lawLit w.params).1.iter [(lawLit w.params).1.b1, (lawLit w.params).1.b2, (lawLit w.params).1.b3, (lawLit w.params).1.b4, (lawLit w.params).1.b5, (lawLit w.params).1.b6, (lawLit w.params).1.b7, (lawLit w.params).1.b8, (lawLit w.params).1.b9] [] (lawLit w.params).1.fpos :: (lawLit w.params).1.rest) (lEnv w.params L fa cd)) Q E s := by
  obtain ⟨n4, n15, ar1, arn⟩ := cfg_bounds hnp2 hnp4 hsh hbs2 hbs3
  refine wpAny_execs_cons ?_
  refine T_first G sg hdp hun F N hms n15 hcl hcv hoC hoF h65 (by omega) (by omega) (neN (by omega)) (neN (by omega)) ?_
  intro fA fs ef oF' tl h1 tk1 F1 N1 hoF1 hfl hpf hst ho1 hf3 hf5
  dsimp only
  refine wpAny_execs_cons ?_
  refine T_deck G sg hdp hun F1 N1 hoF1 ?_
  intro h2 tk2 F2 N2
  dsimp only
  refine wpAny_execs_cons ?_
  refine T_loop (k := 0) (crd := fun j => cl.getD j 0) G sg hdp hun F2 N2 hnp2 hnp4 hsh hbs2 hbs3 hoA hoF1 hoZ hzs h65 (by omega) hf3 (neN (by omega)) hf5 hfl ((if_neg (by decide)).trans hmp) ((if_neg (by decide)).trans hms) (if_pos rfl) hoP (dk := fA) (ed := ef) ?_ hst ho1 hpf hE ?_
  · have e : (permAt np (sizeOf' np sh bs) 0).map (fun j => fs.getD j .none) = fs := by
      simp only [permAt]
      refine List.ext_getElem (by simp [hfl]) fun i h1 h2 => ?_
      simp [List.getD_eq_getElem?_getD, List.getElem?_eq_getElem h2]
    rw [e]
    exact .tail _ (.tail _ (.tail _ (.tail _ (.tail _ (.tail _ (.head _))))))
  · intro oP' ps' tl' m' h' tk' F3 N3 hw3
    exact hret [_, _, _, _, _, _, _] ps' tl' m' h' tk' F3 N3 hw3
end
section -- E9
set_option maxHeartbeats 1000000
theorem sum_rep (n : Nat) (x : Int) : (List.replicate n x).sum = n * x := by
  induction n with
  | zero => simp
  | succ n ih => rw [List.replicate_succ, List.sum_cons, ih]; push_cast; rw [Int.add_mul]; omega
theorem cfg_of (q : Int) : ∃ np sh bs : Nat, 2 + q.fmod 3 = (np : Int) ∧ (q.fdiv 3).fmod 2 = (sh : Int) ∧ 2 + (q.fdiv 6).fmod 2 = (bs : Int) ∧ 2 ≤ np ∧ np ≤ 4 ∧ sh ≤ 1 ∧ 2 ≤ bs ∧ bs ≤ 3 := by
  have a1 := Int.fmod_nonneg_of_pos q (show (0 : Int) < 3 by decide)
  have a2 := Int.fmod_lt_of_pos q (show (0 : Int) < 3 by decide)
  have b1 := Int.fmod_nonneg_of_pos (q.fdiv 3) (show (0 : Int) < 2 by decide)
  have b2 := Int.fmod_lt_of_pos (q.fdiv 3) (show (0 : Int) < 2 by decide)
  have c1 := Int.fmod_nonneg_of_pos (q.fdiv 6) (show (0 : Int) < 2 by decide)
  have c2 := Int.fmod_lt_of_pos (q.fdiv 6) (show (0 : Int) < 2 by decide)
  exact ⟨(2 + q.fmod 3).toNat, ((q.fdiv 3).fmod 2).toNat, (2 + (q.fdiv 6).fmod 2).toNat, by omega, by omega, by omega, by omega, by omega, by omega, by omega, by omega⟩
theorem sizes_val {np sh bs : Nat} (h : 2 ≤ np) : (List.replicate ((np : Int) - 1).toNat [(bs : Int) + (sh : Int)]).flatten ++ [(bs : Int)] = (sizesOf np sh bs).map fun (n : Nat) => (n : Int) := by
  have e : ((np : Int) - 1).toNat = np - 1 := by omega
  have f : ∀ (n : Nat) (x : Int), (List.replicate n [x]).flatten = List.replicate n x := fun n x => by
    induction n with
    | zero => rfl
    | succ n ih => rw [List.replicate_succ, List.flatten_cons, ih]; rfl
  rw [e, f, sizesOf, List.map_append, List.map_replicate]
  simp
theorem sizes_sum {np sh bs : Nat} (h : 2 ≤ np) : ((sizesOf np sh bs).map fun (n : Nat) => (n : Int)).sum = ((sizeOf' np sh bs : Nat) : Int) := by
  rw [sizesOf, List.map_append, List.map_replicate, List.sum_append, sum_rep]
  simp only [List.map_cons, List.map_nil, List.sum_cons, List.sum_nil, sizeOf']
  push_cast
  rw [Int.mul_comm]
  omega
theorem sum_pos (q : Int) : 0 ≤ ((List.replicate (2 + q.fmod 3 - 1).toNat [2 + (q.fdiv 6).fmod 2 + (q.fdiv 3).fmod 2]).flatten ++ [2 + (q.fdiv 6).fmod 2]).sum := by
  obtain ⟨np, sh, bs, e1, e2, e3, h1, h2, h3, h4, h5⟩ := cfg_of q
  rw [e1, e2, e3, sizes_val h1, sizes_sum h1]
  omega
theorem law_fin {w : World} {p : Program} {loose : List Str} {mean : ExcName → Option Value} {mg mb : Str → Option Value} {g₀ g : Heap} (G : Gd w p loose mean mg mb g₀) (sg : Sub g₀ g)
   {L fa : Addr} {cd : Value} {zA cA : Addr} {ez ec : Nat} {oP oF oC oA oZ : Obj} {zs cv : List Value} {m : Str → Option Value}
   {dp un : Nat} {fr : Option (List Env)} {gd : Option (List Code)} {s : Shared} {E : Value → Shared → Prop} {Q : Flow → Shared → Prop}
   (hdp : dp + 400 < recursionLimit) (hun : un + 2000 < cLine)
   (F : Fr g L s.heap m) (N : News g L s.heap ((L + 1 + 1 + 1 + 1 + 1, oP) :: (L + 1 + 1 + 1 + 1, oF) :: (L + 1 + 1 + 1, oC) :: (L + 1 + 1, oA) :: (L + 1, oZ) :: (zA, listOf zs.toArray ez) :: (cA, listOf cv.toArray ec) :: (65, tabObj #[]) :: (37, tabObj #[]) :: (44, tabObj #[]) :: []))
   {q : Int} {ns : List Int} {tp ta tz : Tok} {vF vP : Option Value}
   (hmp : m (Str.ofString "piles") = some (.int (2 + q.fmod 3) tp)) (hms : m (Str.ofString "size") = some (.int ((List.replicate (2 + q.fmod 3 - 1).toNat [2 + (q.fdiv 6).fmod 2 + (q.fdiv 3).fmod 2]).flatten ++ [2 + (q.fdiv 6).fmod 2]).sum tz)) (hcv : IntsAre cv (List.take ((List.replicate (2 + q.fmod 3 - 1).toNat [2 + (q.fdiv 6).fmod 2 + (q.fdiv 3).fmod 2]).flatten ++ [2 + (q.fdiv 6).fmod 2]).sum.toNat (List.drop 1 ns ++ (List.replicate 15 [0]).flatten))) (hzs : IntsAre zs ((List.replicate (2 + q.fmod 3 - 1).toNat [2 + (q.fdiv 6).fmod 2 + (q.fdiv 3).fmod 2]).flatten ++ [2 + (q.fdiv 6).fmod 2]))
   (hoZ : oZ.data = .cell (some (.ref zA))) (hoA : oA.data = .cell (some (.int (((List.replicate (2 + q.fmod 3 - 1).toNat [2 + (q.fdiv 6).fmod 2 + (q.fdiv 3).fmod 2]).flatten ++ [2 + (q.fdiv 6).fmod 2]).sum - 1 + (q.fdiv 3).fmod 2) ta))) (hoC : oC.data = .cell (some (.ref cA))) (hoF : oF.data = .cell vF) (hoP : oP.data = .cell vP)
   (h65 : @LT.lt Nat _ 65 L) (hzL : @LT.lt Nat _ (L + 1 + 1 + 1 + 1 + 1) zA) (hcL : @LT.lt Nat _ (L + 1 + 1 + 1 + 1 + 1) cA)
   (hE : PassesOwn (model PySem.Challenge.rw_ph0093_01.row.prog w) ((AA dp un fr gd).deeper (lEnv w.params L fa cd)) (lEnv w.params L fa cd) E)
   (hret : ∀ c1 c2 c3 m' h' tk', Fr g L h' m' → News g L h' [(65, tabObj (lamPs w c3)), (44, tabObj #[rawInt (innerLit2 w.params).1.pos.line, rawInt (innerLit2 w.params).1.pos.col, .ref c2]), (37, tabObj #[rawInt (innerLit w.params).1.pos.line, rawInt (innerLit w.params).1.pos.col, .ref c1])] → Q (.ret (.bool true)) { s with heap := h', toks := tk' }) :
   wpAny (model PySem.Challenge.rw_ph0093_01.row.prog w) ((AA dp un fr gd).deeper (lEnv w.params L fa cd)) (execs ((lawLit w.params).1.s8 :: (lawLit w.params).1.s9 :: .For (lawLit w.params).1.tgt (lawLit w.params).1.iter [(lawLit w.params).1.b1, (lawLit w.params).1.b2, (lawLit w.params).1.b3, (lawLit w.params).1.b4, (lawLit w.params).1.b5, (lawLit w.params).1.b6, (lawLit w.params).1.b7, (lawLit w.params).1.b8, (lawLit w.params).1.b9] [] (lawLit w.params).1.fpos :: (lawLit w.params).1.rest) (lEnv w.params L fa cd)) Q E s := by
  obtain ⟨np, sh, bs, e1, e2, e3, h1, h2, h3, h4, h5⟩ := cfg_of q
  obtain ⟨n4, n15, ar1, arn⟩ := cfg_bounds h1 h2 h3 h4 h5
  rw [e1, e2, e3, sizes_val h1] at hzs
  rw [e1] at hmp
  rw [e1, e2, e3, sizes_val h1, sizes_sum h1] at hms hcv hoA
  rw [Int.toNat_natCast] at hcv
  have ea : ((sizeOf' np sh bs : Nat) : Int) - 1 + (sh : Int) = ((aroundOf np sh bs : Nat) : Int) := by unfold aroundOf; omega
  rw [ea] at hoA
  refine law_rest G sg hdp hun F N h1 h2 h3 h4 h5 hmp hms (by simp; omega) hcv hzs hoZ hoA hoC hoF hoP h65 hzL hcL hE ?_
  intro nl ps' tl' m' h' tk' F9 N9 hw9
  obtain ⟨c1, c2, oc1, oc2, a, b, _⟩ := hw9.wm
  obtain ⟨c3, rfl, _⟩ := hw9.l
  refine hret c1 c2 c3 m' h' tk' F9 (news_sub N9 fun p hp => ?_)
  simp only [List.mem_cons, List.not_mem_nil, or_false] at hp
  rcases hp with rfl | rfl | rfl
  · exact List.mem_append_right _ (.head _)
  · exact List.mem_append_right _ (.tail _ b)
  · exact List.mem_append_right _ (.tail _ a)
end
section -- E10
set_option maxHeartbeats 4000000
local macro_rules | `(tactic| walk_at "execs cons") => `(tactic| ((with_reducible show wpAny _ _ (execs (PySem.Stmt.Assign _ (PySem.Expr.ListComp _ _ _ _) _ :: _) _) _ _ _); refine stop_intro ?_))
local macro_rules | `(tactic| walk_at "subscriptTail Name Slice ref ref") => `(tactic| (k_here; (with_reducible show wpAny _ _ (subscriptTail _ (PySem.Expr.Slice _ _ none _) (Value.ref _) (Value.ref _)) _ _ _); k_dflt (refine' kmk_slice_ints ?F ?N ?l ?p ?q ?i ?m ?c ?_ ?s ?t ?z; (case F => k_asm); (case N => k_asm); (case l => kmk_list); (case p => kmk_part); (case q => kmk_part); (case i => l_ints); (case m => exact kmk_upto (by l_ints) (sum_pos _)); (case c => kmk_len); (case s => with_unfolding_all rfl); (case t => kmk_pure); (case z => kmk_size)); intro D' ws' h' F' N' l1 hI' hC' hL'; (try k_lt l1)))
theorem law_main : PySem.Challenge.rw_ph0093_01.Holds := hd (by
  w_strict k_go0
  all_goals try k_fold
  k_steps
  · unfold Stop
    rename Fr _ _ _ _ => F
    rename News _ _ _ _ => N
    rename IntsAre _ (List.take _ _) => hcv
    rename IntsAre _ (List.flatten _ ++ [_]) => hzs
    rename _ = Data.cell (some (Value.int _ _)) => hoA
    rename _ = Data.cell (some (Value.ref _)) => hoC
    revert hoC
    rename _ = Data.cell (some (Value.ref _)) => hoZ
    intro hoC
    rename (Obj.data _ = Data.cell (bindC _ _ _ _)) => k1
    clear k1
    rename (Obj.data _ = Data.cell (bindC _ _ _ _)) => k1
    clear k1
    rename (Obj.data _ = Data.cell (bindC _ _ _ _)) => k1
    clear k1
    rename (Obj.data _ = Data.cell (bindC _ _ _ _)) => k1
    have hoF' : ∃ v, Obj.data _ = Data.cell v := ⟨_, k1⟩
    clear k1
    rename (Obj.data _ = Data.cell (bindC _ _ _ _)) => k1
    have hoP' : ∃ v, Obj.data _ = Data.cell v := ⟨_, k1⟩
    clear k1
    obtain ⟨vF, hoF⟩ := hoF'
    obtain ⟨vP, hoP⟩ := hoP'
    rename CellsAre _ _ _ => hCA
    clear hCA
    rename Top _ _ _ _ _ _ => TT
    rename Frag.In _ _ => XX
    rename World => ww
    rename List Int => ns
    rename CodeHd _ _ _ => codeHd1
    revert codeHd1
    rename CodeHd _ _ _ => codeHd2
    revert codeHd2
    rename CodeHd _ _ _ => codeHd3
    intro codeHd2 codeHd1
    have G : Gd ww _ _ _ _ _ _ := ⟨XX, TT, codeHd1, codeHd2, codeHd3, (N (37, tabObj #[]) (List.mem_of_getElem? (i := 18) rfl)).2.2, (N (44, tabObj #[]) (List.mem_of_getElem? (i := 17) rfl)).2.2, (N (65, tabObj #[]) (List.mem_of_getElem? (i := 16) rfl)).2.2⟩
    have hA : callerA = AA (1 + claimMargin) 4 (some []) (some []) := rfl
    have hd1 : 1 + claimMargin + 400 < recursionLimit := by decide
    have hd2 : 4 + 2000 < cLine := by decide
    rw [hA]
    refine' law_fin (ez := 0) (ec := 0) G (fun _ _ h => h) hd1 hd2 F (news_sub N ?zzsub) ?zzmp ?zzms hcv hzs hoZ hoA hoC hoF hoP ?zza ?zzb ?zzc ?zze ?zzret
    (case zzmp => (repeat' first | exact if_pos rfl | refine (if_neg (by decide)).trans ?_))
    (case zzms => (repeat' first | exact if_pos rfl | refine (if_neg (by decide)).trans ?_))
    (case zza => omega)
    (case zzb => omega)
    (case zzc => omega)
    (case zze => passes_own)
    (case zzsub =>
      intro p hp
      rcases List.mem_cons.mp hp with rfl | hp
      · exact List.mem_of_getElem? (i := 11) rfl
      rcases List.mem_cons.mp hp with rfl | hp
      · exact List.mem_of_getElem? (i := 12) rfl
      rcases List.mem_cons.mp hp with rfl | hp
      · exact List.mem_of_getElem? (i := 13) rfl
      rcases List.mem_cons.mp hp with rfl | hp
      · exact List.mem_of_getElem? (i := 14) rfl
      rcases List.mem_cons.mp hp with rfl | hp
      · exact List.mem_of_getElem? (i := 15) rfl
      rcases List.mem_cons.mp hp with rfl | hp
      · exact List.mem_of_getElem? (i := 5) rfl
      rcases List.mem_cons.mp hp with rfl | hp
      · exact List.mem_of_getElem? (i := 0) rfl
      rcases List.mem_cons.mp hp with rfl | hp
      · exact List.mem_of_getElem? (i := 16) rfl
      rcases List.mem_cons.mp hp with rfl | hp
      · exact List.mem_of_getElem? (i := 18) rfl
      rcases List.mem_cons.mp hp with rfl | hp
      · exact List.mem_of_getElem? (i := 17) rfl
      cases hp)
    intro c1 c2 c3 m9 h9 tk9 F9 N9
    clear F N
    dsimp only
    k_steps
    done)
end
end Mine
set_option maxRecDepth 100000 in
set_option maxHeartbeats 8000000 in
theorem PySem.Challenge.cw_ph0093_01_holds : PySem.Challenge.rw_ph0093_01.Holds := by
  exact Mine.law_main
