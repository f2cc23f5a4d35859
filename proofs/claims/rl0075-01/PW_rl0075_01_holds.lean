import PyProof.Rows.All
import Wide.All
import OpenK.AllK
import Wide.FinOn
import PySem.Challenge.RW_rl0075_01
set_option Elab.async false
set_option maxRecDepth 100000
set_option maxHeartbeats 8000000
set_option linter.unusedVariables false
set_option linter.unusedSimpArgs false
set_option compiler.extract_closed false
namespace RL
open PySem PySem.W PyProof.Rows
open_top hd for PySem.Challenge.rw_rl0075_01
end RL
section
open PySem PySem.W PyProof.Rows PySem.Calls
namespace RL
theorem rst_A0 {M : Model} {A : Around} {env : Env} {Q : Flow → Shared → Prop} {E : Value → Shared → Prop} {s : Shared} (h : Q .next s) : wpAny M A (execs [] env) Q E s := by
  w_top off
  k_with_none
  first
    | (walk1; fail)
    | exact wpAny_execs_nil h
noncomputable abbrev Pg : Program := PySem.Challenge.rw_rl0075_01.row.prog
abbrev Ar (d u : Nat) : Around := { handled := none, depth := d, frames := none, guards := none, units := u }
theorem lower {α : Type} {M : Model} {A : Around} {d u : Nat} {t : Sem α} {Q : α → Shared → Prop} {E : Value → Shared → Prop} {s : Shared}
    (hh : A.handled = none) (hd : A.depth ≤ d) (hu : A.units ≤ u) (h : wpAny M (Ar d u) t Q E s) : wpAny M A t Q E s :=
  fun Γ p hΓ => h Γ p ⟨hΓ.1.trans hh, Nat.le_trans hΓ.2.1 hd, (fun l hl => nomatch hl), (fun l hl => nomatch hl), Nat.le_trans hΓ.2.2.2.2 hu⟩
abbrev Kp (h h' : Heap) : Prop := ∀ b o, h.get? b = some o → h'.get? b = some o
abbrev TT (mean : ExcName → Option Value) (mg mb : Str → Option Value) (h : Heap) : Prop := Top hd.view_39 (looseW hd.view_39 [Str.ofString "insort_left", Str.ofString "bisect_left", Str.ofString "Whitespace"]) mean mg mb h
section
variable {w : World} {s : Shared} {mean : ExcName → Option Value} {mg mb : Str → Option Value} {d u : Nat} {Q : Value → Shared → Prop} {E : Value → Shared → Prop}
 {name qual : Str} {params : Arguments} {body : List Stmt} {scope : Scope} {dV kV doc pm cdv ct oc : Value} {an od : Option Addr} {osl : Array (Option Value)} {f : Addr} {vs : List Value} {binds : List (Str × Value)}
theorem enter (X : (hd.heap_39 w.params).In s.heap) (T : Top hd.view_39 (looseW hd.view_39 [Str.ofString "insort_left", Str.ofString "bisect_left", Str.ofString "Whitespace"]) mean mg mb s.heap)
    (ho : (hd.heap_39 w.params).lookup f = some ⟨oc, od, .func (fnOf name qual params body scope dV kV doc pm an cdv ct), osl⟩) (hcd : codeIn (hd.heap_39 w.params) cdv qual = true) (hroom : d < recursionLimit)
    (hbind : BindsTo s (fnOf name qual params body scope dV kV doc pm an cdv ct) ⟨vs, []⟩ binds) (hloc : ∀ y ∈ binds, scope.names.lookup y.1 = some .local)
    (hco : scope.isCoroutine = false) (hgen : scope.isGenerator = false) (hk : scope.kind = .function) (hcell : ∀ x ∈ scope.names, x.2 ≠ .cell)
    (h : ∀ L' h₁ tk, Fr s.heap L' h₁ (fun y => binds.reverse.lookup y) → News s.heap L' h₁ [] →
      wpAny (model Pg w) (Ar (d + 1) (u + 3)) (execs body (envOf qual scope L' f cdv))
        (fun fl s' => Q (match fl with | .ret v => v | _ => .none) s') (fun _ _ => False) { s with heap := h₁, toks := tk }) :
    wpAny (model Pg w) (Ar d u) (call (.ref f) vs) Q E s := by
  refine wpAny_call ?_
  refine codeAny_call_def (fd := fnX name qual params body scope [] dV kV doc pm an cdv ct) (body := body) (binds := binds) hroom (X _ _ ho) rfl T.nolimit (codeRec_of X hcd) rfl hbind hcell hloc (fun h₁ hns hk₁ => ?_) hco hgen hk
  exact wpAny_mono (h s.heap.objs.size h₁ _ ⟨hns, hk₁, Nat.le_refl _⟩ News.nil) (fun fl s' x => x) (fun _ _ x => x.elim)
theorem enterC (X : (hd.heap_39 w.params).In s.heap) (T : Top hd.view_39 (looseW hd.view_39 [Str.ofString "insort_left", Str.ofString "bisect_left", Str.ofString "Whitespace"]) mean mg mb s.heap)
    (ho : (hd.heap_39 w.params).lookup f = some ⟨oc, od, .func (fnX name qual params body scope [] dV kV doc pm an cdv ct), osl⟩) (hcd : codeIn (hd.heap_39 w.params) cdv qual = true) (hroom : d < recursionLimit)
    (hbind : BindsTo s (fnX name qual params body scope [] dV kV doc pm an cdv ct) ⟨vs, []⟩ binds)
    (hkind : ∀ n, ∀ x ∈ binds, scope.names.lookup x.1 = some .local ∨ (scope.names.lookup x.1 = some .cell ∧ ((cellsFrom n scope.names []).lookup x.1).isSome = true))
    (hnd : ((cellsFrom 0 scope.names []).map (·.1)).Nodup)
    (hco : scope.isCoroutine = false) (hgen : scope.isGenerator = false) (hk : scope.kind = .function)
    (h : ∀ L' h₁ tk cells, Fr s.heap L' h₁ (bindL (envOfC qual scope L' f cdv).kindOf binds fun _ => none) → News s.heap L' h₁ cells →
      CellsAre (bindC (envOfC qual scope L' f cdv).kindOf binds fun _ => none) (cellsFrom (L' + 1) scope.names []) cells →
      wpAny (model Pg w) (Ar (d + 1) (u + 3)) (execs body (envOfC qual scope L' f cdv))
        (fun fl s' => Q (match fl with | .ret v => v | _ => .none) s') (fun _ _ => False) { s with heap := h₁, toks := tk }) :
    wpAny (model Pg w) (Ar d u) (call (.ref f) vs) Q E s := by
  refine wpAny_call ?_
  refine codeAny_call_function hroom (X _ _ ho) rfl hco hgen rfl (codeRec_of X hcd) (hbind _ _ _ _ ?_)
  refine wpAny_newFunctionEnv_cells hk (hkind _) fun env' he s' x => ?_
  subst he
  refine ⟨T.nolimit.keeps x.toInCall.keep, codeAny_func ?_⟩
  obtain ⟨h₁, tk, rfl, _⟩ := x.done
  have hk₁ := x.toInCall.keep
  obtain ⟨cells, NC, Y⟩ := Cl.news (h₀ := s.heap) (Nat.le_refl _) fun n c hm => ⟨x.cell n c (lookup_of_mem_nodup (cellsFrom_names scope.names 0 (s.heap.objs.size + 1) [] [] rfl ▸ hnd) hm), x.above n c hm⟩
  exact wpAny_mono (h s.heap.objs.size h₁ tk cells ⟨x.toInCall.ns, hk₁, Nat.le_refl _⟩ NC Y) (fun fl s' x => x) (fun _ _ x => x.elim)
end
theorem kpw2 {h₀ h : Heap} {L : Addr} {m : Str → Option Value} {news : List (Addr × Obj)} {R : Heap → Nat → Prop} (F : Fr h₀ L h m) (N : News h₀ L h news) (k : ∀ h' tk', Kp h h' → Fr h₀ L h' m → News h₀ L h' news → R h' tk') : ∀ h' tk', Kp h h' → R h' tk' := fun h' tk' e => k h' tk' e (F.keeps e) (N.grown e)
theorem kpw3 {h₀ h : Heap} {L : Addr} {m : Str → Option Value} {news : List (Addr × Obj)} {R : Heap → Nat → Tok → Prop} (F : Fr h₀ L h m) (N : News h₀ L h news) (k : ∀ h' tk' t', Kp h h' → Fr h₀ L h' m → News h₀ L h' news → R h' tk' t') : ∀ h' tk' t', Kp h h' → R h' tk' t' := fun h' tk' t' e => k h' tk' t' e (F.keeps e) (N.grown e)
theorem c_eof {w : World} {s : Shared} {mean : ExcName → Option Value} {mg mb : Str → Option Value} {Q : Value → Shared → Prop} {E : Value → Shared → Prop} {x : Int} {t : Tok}
    (X : (hd.heap_39 w.params).In s.heap) (T : Top hd.view_39 (looseW hd.view_39 [Str.ofString "insort_left", Str.ofString "bisect_left", Str.ofString "Whitespace"]) mean mg mb s.heap)
    (h : ∀ h' tk', Kp s.heap h' → Q (.bool (x == 0)) { s with heap := h', toks := tk' }) :
    wpAny (model Pg w) (Ar 600 400) (call (.ref 42) [.int x t]) Q E s := by
  refine' enter X T ?k6 ?k7 ?k8 ?k9 ?kB ?c2 ?c3 ?c4 ?c5 ?_
  case k6 => k_is
  case k7 => k_is
  case k8 => decide
  case k9 => exact BindsTo.of_eq rfl
  case kB => exact locs rfl
  case c2 => rfl
  case c3 => rfl
  case c4 => rfl
  case c5 => decide
  intro L' h₁ tk F' N'
  (try dsimp only)
  k_fold
  k_steps
  exact h _ _ F'.keep
theorem c_term {w : World} {s : Shared} {mean : ExcName → Option Value} {mg mb : Str → Option Value} {Q : Value → Shared → Prop} {E : Value → Shared → Prop} {x : Int} {t : Tok}
    (X : (hd.heap_39 w.params).In s.heap) (T : Top hd.view_39 (looseW hd.view_39 [Str.ofString "insort_left", Str.ofString "bisect_left", Str.ofString "Whitespace"]) mean mg mb s.heap)
    (h : ∀ h' tk', Kp s.heap h' → Q (.bool (decide (x < 256))) { s with heap := h', toks := tk' }) :
    wpAny (model Pg w) (Ar 600 400) (call (.ref 28) [.int x t]) Q E s := by
  refine' enter X T ?k6 ?k7 ?k8 ?k9 ?kB ?c2 ?c3 ?c4 ?c5 ?_
  case k6 => k_is
  case k7 => k_is
  case k8 => decide
  case k9 => exact BindsTo.of_eq rfl
  case kB => exact locs rfl
  case c2 => rfl
  case c3 => rfl
  case c4 => rfl
  case c5 => decide
  intro L' h₁ tk F' N'
  (try dsimp only)
  k_fold
  k_steps
  exact h _ _ F'.keep
theorem c_nonterm {w : World} {s : Shared} {mean : ExcName → Option Value} {mg mb : Str → Option Value} {Q : Value → Shared → Prop} {E : Value → Shared → Prop} {x : Int} {t : Tok}
    (X : (hd.heap_39 w.params).In s.heap) (T : Top hd.view_39 (looseW hd.view_39 [Str.ofString "insort_left", Str.ofString "bisect_left", Str.ofString "Whitespace"]) mean mg mb s.heap)
    (h : ∀ h' tk', Kp s.heap h' → Q (.bool (decide (x ≥ 256))) { s with heap := h', toks := tk' }) :
    wpAny (model Pg w) (Ar 600 400) (call (.ref 35) [.int x t]) Q E s := by
  refine' enter X T ?k6 ?k7 ?k8 ?k9 ?kB ?c2 ?c3 ?c4 ?c5 ?_
  case k6 => k_is
  case k7 => k_is
  case k8 => decide
  case k9 => exact BindsTo.of_eq rfl
  case kB => exact locs rfl
  case c2 => rfl
  case c3 => rfl
  case c4 => rfl
  case c5 => decide
  intro L' h₁ tk F' N'
  (try dsimp only)
  k_fold
  k_steps
  exact h _ _ F'.keep
end RL
end
section
open PySem PySem.W PyProof.Rows PySem.Calls
namespace RL
def shG (ns : List Int) (x : Int) (l : List Int) (k : Int) : List Int := if (Builtin.bitAnd x (Builtin.bitNot (ns.getD k.toNat 0)) == 0) = true then l ++ [2 ^ (3 - k).toNat] else l
def shF (ns : List Int) (x : Int) : Int := ((rangeKs 0 4).foldl (shG ns x) []).sum
theorem c_shared {w : World} {s : Shared} {mean : ExcName → Option Value} {mg mb : Str → Option Value} {Q : Value → Shared → Prop} {E : Value → Shared → Prop} {x : Int} {t : Tok}
    {l : Addr} {vs : List Value} {ns : List Int}
    (X : (hd.heap_39 w.params).In s.heap) (T : Top hd.view_39 (looseW hd.view_39 [Str.ofString "insort_left", Str.ofString "bisect_left", Str.ofString "Whitespace"]) mean mg mb s.heap)
    (hl : s.heap.IsList l vs.toArray) (hi : IntsAre vs ns) (hn : ns.length = 4)
    (h : ∀ h' tk' t', Kp s.heap h' → Q (.int (shF ns x) t') { s with heap := h', toks := tk' }) :
    wpAny (model Pg w) (Ar 500 300) (call (.ref 145) [.ref l, .int x t]) Q E s := by
  k_with_none
  k_with "call ref" => (k_here; (with_reducible show wpAny _ _ (call (Value.ref 42) [Value.int _ _]) _ _ _); refine lower rfl (by decide) (by decide) (c_eof (Frag.In.keeps (by k_asm) (Fr.keep (by k_asm))) (Top.keeps (by k_asm) (Fr.keep (by k_asm))) (kpw2 (by k_asm) (by k_asm) ?_)); intro _ _ _ _ _)
  refine' enterC X T ?k6 ?k7 ?k8 ?k9 ?kB ?c1 ?c2 ?c3 ?c4 ?_
  case k6 => k_is
  case k7 => k_is
  case k8 => decide
  case k9 => exact BindsTo.of_eq rfl
  case kB => exact kindsX rfl
  case c1 => decide
  case c2 => rfl
  case c3 => rfl
  case c4 => rfl
  intro L' h₁ tk cells F' N' Y'
  obtain ⟨o1, o2, hE, d1, d2⟩ := CellsAre.two Y'
  subst hE; clear Y'
  replace F' : Fr s.heap L' h₁ (fun _ => none) := F'
  replace d1 : o1.data = .cell (some (.int x t)) := d1
  replace d2 : o2.data = .cell (some (.ref l)) := d2
  (try dsimp only)
  (try k_unmd)
  k_fold
  iterate 6 walk1
  k_dflt (refine LCt.ListComp_T (F₀ := F') (by with_unfolding_all rfl) (by decide) (by rfl) (by decide) (by rfl) ?_)
  iterate 7 (first | walk1 | (dsimp only; walk1))
  k_dflt (refine LCt.CompSrcT.range (by rfl) (by k_asm) (by k_asm) (by assumption) (by decide) (by rfl) (by exact Nat.le_of_ble_eq_true rfl) ?_)
  intro g'
  refine kci_range (n := 4) (shG ns x) (fun k' t' I' oI' C' oC' D' m' ys' l' h' tk' E' hlo' hhi' hI' hC' hx' F' N' off' ne' => ?_) ?_ ?_
  · intro mk
    k_steps
    · rename_i hc
      have hc' : (Builtin.bitAnd x (Builtin.bitNot (ns.getD k'.toNat 0)) == 0) = true := by simpa using hc
      with_reducible rename Fr _ _ _ _ => kF
      with_reducible rename News _ _ _ _ => kN
      exact LCg.CompEnd.intro kF kN _ (fun p hp => hp) off' trivial (kci_el (by unfold shG; rw [if_pos hc']) rfl rfl)
    · rename_i hc
      have hc' : ¬ (Builtin.bitAnd x (Builtin.bitNot (ns.getD k'.toNat 0)) == 0) = true := by simpa using hc
      with_reducible rename Fr _ _ _ _ => kF
      with_reducible rename News _ _ _ _ => kN
      exact LCg.CompEnd.intro kF kN _ (fun p hp => hp) off' trivial (kci_no (by unfold shG; rw [if_neg hc']) rfl)
  · intro ys hys hlen D hh tkk FF NN OO
    k_steps
    with_reducible rename Fr _ _ _ _ => kF
    exact h _ _ _ kF.keep
  · intro l k
    unfold shG
    split <;> simp
end RL
end
section
open PySem PySem.W PyProof.Rows PySem.Calls
namespace RL
theorem if_app {c : Prop} [Decidable c] {l : List Int} {x : Int} : (if c then l ++ [x] else l) = l ++ (if c then [x] else []) := by
  split <;> simp
theorem sum4 : ∀ a b c d : Bool, ([] ++ (if a = true then [(8 : Int)] else []) ++ (if b = true then [4] else []) ++ (if c = true then [2] else []) ++ (if d = true then [1] else [])).sum = (if a = true then 8 else 0) + (if b = true then 4 else 0) + (if c = true then 2 else 0) + (if d = true then 1 else 0) := by decide
theorem sum4_bnd : ∀ a b c d : Bool, 0 ≤ (if a = true then (8 : Int) else 0) + (if b = true then 4 else 0) + (if c = true then 2 else 0) + (if d = true then 1 else 0) ∧ (if a = true then (8 : Int) else 0) + (if b = true then 4 else 0) + (if c = true then 2 else 0) + (if d = true then 1 else 0) < 16 := by decide
theorem shF_bnd (ns : List Int) (x : Int) : 0 ≤ shF ns x ∧ shF ns x < 16 := by
  have e : rangeKs 0 4 = [0, 1, 2, 3] := by decide
  have g0 : (2 : Int) ^ (3 - 0 : Int).toNat = 8 := by decide
  have g1 : (2 : Int) ^ (3 - 1 : Int).toNat = 4 := by decide
  have g2 : (2 : Int) ^ (3 - 2 : Int).toNat = 2 := by decide
  have g3 : (2 : Int) ^ (3 - 3 : Int).toNat = 1 := by decide
  unfold shF
  rw [e]
  simp only [List.foldl_cons, List.foldl_nil, shG, if_app, g0, g1, g2, g3]
  rw [sum4]
  exact sum4_bnd _ _ _ _
def whF (ms ts : List Int) (x : Int) : Int := shF ts (shF ms x)
theorem c_whole {w : World} {s : Shared} {mean : ExcName → Option Value} {mg mb : Str → Option Value} {Q : Value → Shared → Prop} {E : Value → Shared → Prop} {x : Int} {t : Tok} {l l2 : Addr} {vs vs2 : List Value} {ns ns2 : List Int}
    (X : (hd.heap_39 w.params).In s.heap) (T : Top hd.view_39 (looseW hd.view_39 [Str.ofString "insort_left", Str.ofString "bisect_left", Str.ofString "Whitespace"]) mean mg mb s.heap)
    (hl : s.heap.IsList l vs.toArray) (hi : IntsAre vs ns) (hn : ns.length = 4) (hl2 : s.heap.IsList l2 vs2.toArray) (hi2 : IntsAre vs2 ns2) (hn2 : ns2.length = 4)
    (h : ∀ h' tk' t', Kp s.heap h' → Q (.int (whF ns ns2 x) t') { s with heap := h', toks := tk' }) :
    wpAny (model Pg w) (Ar 490 290) (call (.ref 152) [.ref l, .ref l2, .int x t]) Q E s := by
  k_with_none
  k_with "call ref" => (k_here; (with_reducible show wpAny _ _ (call (Value.ref 145) [Value.ref _, Value.int _ _]) _ _ _); refine lower rfl (by decide) (by decide) (c_shared (Frag.In.keeps (by k_asm) (Fr.keep (by k_asm))) (Top.keeps (by k_asm) (Fr.keep (by k_asm))) (stays_list (Fr.keep (by k_asm)) (by assumption)) (by assumption) (by assumption) (kpw3 (by k_asm) (by k_asm) ?_)); intro _ _ _ _ _ _)
  refine' enter X T ?k6 ?k7 ?k8 ?k9 ?kB ?c2 ?c3 ?c4 ?c5 ?_
  case k6 => k_is
  case k7 => k_is
  case k8 => decide
  case k9 => exact BindsTo.of_eq rfl
  case kB => exact locs rfl
  case c2 => rfl
  case c3 => rfl
  case c4 => rfl
  case c5 => decide
  intro L' h₁ tk F' N'
  (try dsimp only)
  (try k_unmd)
  k_fold
  k_steps
  with_reducible rename Fr _ _ _ _ => kF
  exact h _ _ _ kF.keep
theorem fin16 {a : Int} (h0 : 0 ≤ a) (h1 : a < 16) : ∃ i : Fin 16, a = ((i.val : Nat) : Int) := ⟨⟨a.toNat, by omega⟩, by simp; omega⟩
theorem xor16 {a b : Int} (a0 : 0 ≤ a) (a1 : a < 16) (b0 : 0 ≤ b) (b1 : b < 16) : 0 ≤ Builtin.bitXor a b ∧ Builtin.bitXor a b < 16 := by
  obtain ⟨i, rfl⟩ := fin16 a0 a1
  obtain ⟨j, rfl⟩ := fin16 b0 b1
  revert i j
  decide +kernel
theorem bits16 {a : Int} (a0 : 0 ≤ a) (a1 : a < 16) : (Builtin.Int.intBits a : Int) ≤ 4 := by
  obtain ⟨i, rfl⟩ := fin16 a0 a1
  revert i
  decide +kernel
theorem p2ne (k : Nat) : (2 * 2 ^ k : Int) ≠ 0 := by
  have : (0:Int) < 2 ^ k := Int.pow_pos (by decide)
  omega
theorem p2small {k : Int} (h : 1 ≤ k) : (2 * 2 ^ (4 - k).toNat : Int).natAbs < 1073741824 := by
  have : (4 - k).toNat ≤ 3 := by omega
  generalize (4 - k).toNat = n at this
  obtain rfl | rfl | rfl | rfl : n = 0 ∨ n = 1 ∨ n = 2 ∨ n = 3 := by omega
  all_goals decide
theorem drop_down {j : Nat} (hj : j < 4) : (downKs 4 4).drop j = (4 - (j : Int)) :: (downKs 4 4).drop (j + 1) := by
  obtain rfl | rfl | rfl | rfl : j = 0 ∨ j = 1 ∨ j = 2 ∨ j = 3 := by omega
  all_goals rfl
def nxT (ms ts : List Int) (old p : Int) : Int := whF ms ts (old.fdiv (2 * 2 ^ (4 - p).toNat) * (2 * 2 ^ (4 - p).toNat) + 2 ^ (4 - p).toNat)
def nxGo (ms ts : List Int) (old : Int) : List Int → Int
  | [] => 15
  | p :: r => if Int.fmod (old * 2 ^ (4 + p).toNat) 512 < 256 ∧ Builtin.bitXor old (nxT ms ts old p) * 2 ^ (3 + p).toNat < 256 then nxT ms ts old p else nxGo ms ts old r
def nxF (ms ts : List Int) (old : Int) : Int := nxGo ms ts old [4, 3, 2, 1]
theorem c_next {w : World} {s : Shared} {mean : ExcName → Option Value} {mg mb : Str → Option Value} {Q : Value → Shared → Prop} {E : Value → Shared → Prop} {x : Int} {t : Tok} {l l2 : Addr} {vs vs2 : List Value} {ns ns2 : List Int}
    (X : (hd.heap_39 w.params).In s.heap) (T : Top hd.view_39 (looseW hd.view_39 [Str.ofString "insort_left", Str.ofString "bisect_left", Str.ofString "Whitespace"]) mean mg mb s.heap)
    (hl : s.heap.IsList l vs.toArray) (hi : IntsAre vs ns) (hn : ns.length = 4) (hl2 : s.heap.IsList l2 vs2.toArray) (hi2 : IntsAre vs2 ns2) (hn2 : ns2.length = 4) (hx0 : 0 ≤ x) (hx1 : x < 16)
    (h : ∀ h' tk' t', Kp s.heap h' → Q (.int (nxF ns ns2 x) t') { s with heap := h', toks := tk' }) :
    wpAny (model Pg w) (Ar 480 280) (call (.ref 159) [.ref l, .ref l2, .int x t]) Q E s := by
  k_with_none
  k_with "call ref" => (k_here; (with_reducible show wpAny _ _ (call (Value.ref 145) [Value.ref _, Value.int _ _]) _ _ _); refine lower rfl (by decide) (by decide) (c_shared (Frag.In.keeps (by k_asm) (Fr.keep (by k_asm))) (Top.keeps (by k_asm) (Fr.keep (by k_asm))) (stays_list (Fr.keep (by k_asm)) (by assumption)) (by assumption) (by assumption) (kpw3 (by k_asm) (by k_asm) ?_)); intro _ _ _ _ _ _)
  k_with "call ref" => (k_here; (with_reducible show wpAny _ _ (call (Value.ref 28) [Value.int _ _]) _ _ _); refine lower rfl (by decide) (by decide) (c_term (Frag.In.keeps (by k_asm) (Fr.keep (by k_asm))) (Top.keeps (by k_asm) (Fr.keep (by k_asm))) (kpw2 (by k_asm) (by k_asm) ?_)); intro _ _ _ _ _)
  k_with "call ref" => (k_here; (with_reducible show wpAny _ _ (call (Value.ref 35) [Value.int _ _]) _ _ _); refine lower rfl (by decide) (by decide) (c_nonterm (Frag.In.keeps (by k_asm) (Fr.keep (by k_asm))) (Top.keeps (by k_asm) (Fr.keep (by k_asm))) (kpw2 (by k_asm) (by k_asm) ?_)); intro _ _ _ _ _)
  k_with "call ref" => (k_here; (with_reducible show wpAny _ _ (call (Value.ref 152) [Value.ref _, Value.ref _, Value.int _ _]) _ _ _); refine lower rfl (by decide) (by decide) (c_whole (Frag.In.keeps (by k_asm) (Fr.keep (by k_asm))) (Top.keeps (by k_asm) (Fr.keep (by k_asm))) (stays_list (Fr.keep (by k_asm)) (by assumption)) (by assumption) (by assumption) (stays_list (Fr.keep (by k_asm)) (by assumption)) (by assumption) (by assumption) (kpw3 (by k_asm) (by k_asm) ?_)); intro _ _ _ _ _ _)
  k_with "binaryOp FloorDiv int int" => (refine floordiv_int (p2ne _) ?_ (Or.inl (PyProof.noPylong_small (p2small (by omega)))))
  k_with "binaryOp LShift int int" => ((with_reducible show wpAny _ _ (binaryOp _ (Value.int (Builtin.bitXor _ _) _) _) _ _ _); refine lshift_int (by omega) (Int.le_trans (Int.add_le_add_right (bits16 (xor16 (by omega) (by omega) (shF_bnd _ _).1 (shF_bnd _ _).2).1 (xor16 (by omega) (by omega) (shF_bnd _ _).1 (shF_bnd _ _).2).2) _) (by omega)) ?_)
  refine' enter X T ?k6 ?k7 ?k8 ?k9 ?kB ?c2 ?c3 ?c4 ?c5 ?_
  case k6 => k_is
  case k7 => k_is
  case k8 => decide
  case k9 => exact BindsTo.of_eq rfl
  case kB => exact locs rfl
  case c2 => rfl
  case c3 => rfl
  case c4 => rfl
  case c5 => decide
  intro L' h₁ tk F' N'
  (try dsimp only)
  (try k_unmd)
  k_fold
  iterate 15 (first | walk1 | (dsimp only; walk1))
  k_dflt (refine kst_rangeD (σ := Unit) (n := 4) (fun _ => []) (fun _ => []) (fun _ => True) [Str.ofString "low", Str.ofString "new"] (fun pre _ => nxGo ns ns2 x ((downKs 4 4).drop pre.length) = nxF ns ns2 x) () rfl (by assumption) (by decide) (by rfl) (by assumption) (by assumption) trivial (fun _ hp => nomatch hp) rfl ?_ ?_)
  · intro c pre k t u h' tk own hk hlt hoff hf hp F N
    have hk1 : 1 ≤ k := by omega
    have hk2 : k ≤ 4 := by omega
    rw [drop_down hlt, ← hk] at hp
    (try dsimp only)
    (try k_unmd)
    (try k_fold)
    repeat' (first | (k_unfold; (try dsimp only)) | ((fail_if_success (with_reducible show InvEndN _ _ _ _ _ _ _)); (fail_if_success (with_reducible show KswEnd _ _ _ _ _ _ _ _ _ _ _ _)); (fail_if_success (with_reducible show LCg.CompEnd _ _ _ _ _ _ _ _ _ _ _ _ _ _)); (fail_if_success (with_reducible show LoopStepU _ _ _ _ _ _ _ _)); first | walk1 | (dsimp only; walk1)))
    · rename_i hc2
      with_reducible rename Fr _ _ _ _ => kF
      have hv : nxF ns ns2 x = nxT ns ns2 x k := by
        rw [← hp]; unfold nxGo
        rw [if_pos ⟨by simp_all, of_decide_eq_true (beq_iff_eq.mp hc2)⟩]
      rw [hv] at h
      exact h _ _ _ kF.keep
    · rename_i hc2
      with_reducible rename Fr _ _ _ _ => kF
      with_reducible rename News _ _ _ _ => kN
      refine kst_end () kF kN (fun _ hq => nomatch hq) (fun p hq => hq) rfl trivial (fun _ hq => nomatch hq) ?_ ?_
      · (intro z h1 h2 h3; simp only [List.contains_cons, List.contains_nil, Bool.or_false, Bool.or_eq_false_iff, beq_eq_false_iff_ne, ne_eq] at h3; simp only [List.forall_mem_cons, List.not_mem_nil, false_implies, implies_true, and_true, ne_eq] at h2; simp [h1, h2, h3, kstB])
      · simp only [List.length_append, List.length_cons, List.length_nil]
        rw [← hp, nxGo, if_neg]
        intro hq
        exact Bool.noConfusion (hc2.symm.trans (beq_iff_eq.mpr (decide_eq_true hq.2)))
    · rename_i hc2
      with_reducible rename Fr _ _ _ _ => kF
      with_reducible rename News _ _ _ _ => kN
      refine kst_end () kF kN (fun _ hq => nomatch hq) (fun p hq => hq) rfl trivial (fun _ hq => nomatch hq) ?_ ?_
      · (intro z h1 h2 h3; simp only [List.contains_cons, List.contains_nil, Bool.or_false, Bool.or_eq_false_iff, beq_eq_false_iff_ne, ne_eq] at h3; simp only [List.forall_mem_cons, List.not_mem_nil, false_implies, implies_true, and_true, ne_eq] at h2; simp [h1, h2, h3, kstB])
      · simp only [List.length_append, List.length_cons, List.length_nil]
        rw [← hp, nxGo, if_neg]
        intro hq
        have := hq.1
        simp at hc2
        omega
  · intro c u h' tk hf hp F N
    repeat' (first | (k_unfold; (try dsimp only)) | ((fail_if_success (with_reducible show InvEndN _ _ _ _ _ _ _)); (fail_if_success (with_reducible show KswEnd _ _ _ _ _ _ _ _ _ _ _ _)); (fail_if_success (with_reducible show LCg.CompEnd _ _ _ _ _ _ _ _ _ _ _ _ _ _)); (fail_if_success (with_reducible show LoopStepU _ _ _ _ _ _ _ _)); first | walk1 | (dsimp only; walk1)))
    with_reducible rename Fr _ _ _ _ => kF
    have hv : nxF ns ns2 x = 15 := by rw [← hp]; rfl
    rw [hv] at h
    exact h _ _ _ kF.keep
end RL
end
section
open PySem PySem.W PyProof.Rows PySem.Calls
namespace RL
theorem nxT_bnd (ms ts : List Int) (old p : Int) : 0 ≤ nxT ms ts old p ∧ nxT ms ts old p < 16 := shF_bnd _ _
theorem nxGo_bnd (ms ts : List Int) (old : Int) : ∀ l, 0 ≤ nxGo ms ts old l ∧ nxGo ms ts old l < 16
  | [] => by unfold nxGo; omega
  | p :: r => by
    unfold nxGo
    split
    · exact nxT_bnd _ _ _ _
    · exact nxGo_bnd ms ts old r
theorem nxF_bnd (ms ts : List Int) (old : Int) : 0 ≤ nxF ms ts old ∧ nxF ms ts old < 16 := nxGo_bnd _ _ _ _
def tdGo (ms ts : List Int) : Nat → List Int → List Int
  | 0, l => l
  | n + 1, l => if 241 + l.getLastD 0 < 256 ∧ l.length < 16 then tdGo ms ts n (l ++ [nxF ms ts (l.getLastD 0)]) else l
def tdF (ms ts : List Int) : List Int := tdGo ms ts 15 [whF ms ts 0]
theorem last_item {w : World} {A : Around} {E : Value → Shared → Prop} {s : Shared} {value slice : PySem.Expr} {l : Addr} {vs : List Value} {ns : List Int} {u : Tok} {n : Nat} {h₀ : Heap} {L : Addr} {news : List (Addr × Obj)} {Q : Value → Shared → Prop}
    (N : News h₀ L s.heap news) (hm : (l, listOf vs.toArray n) ∈ news) (hi : IntsAre vs ns) (hne : ns ≠ []) (hlen : ns.length ≤ 16) (h : ∀ t, Q (.int (ns.getLastD 0) t) s)
    (hs : subscripted slice false (.ref l) (.int (-1) u) = operate [.ref l, .int (-1) u] (getItem (.ref l) (.int (-1) u))) :
    wpAny (model Pg w) A (subscriptTail value slice (.ref l) (.int (-1) u)) Q E s := by
  k_with_none
  k_with "call ref" => (k_here; (with_reducible show wpAny _ _ (call (Value.ref 28) [Value.int _ _]) _ _ _); refine lower rfl (by decide) (by decide) (c_term (Frag.In.keeps (by k_asm) (Fr.keep (by k_asm))) (Top.keeps (by k_asm) (Fr.keep (by k_asm))) (kpw2 (by k_asm) (by k_asm) ?_)); intro _ _ _ _ _)
  k_with "call ref" => (k_here; (with_reducible show wpAny _ _ (call (Value.ref 152) [Value.ref _, Value.ref _, Value.int _ _]) _ _ _); refine lower rfl (by decide) (by decide) (c_whole (Frag.In.keeps (by k_asm) (Fr.keep (by k_asm))) (Top.keeps (by k_asm) (Fr.keep (by k_asm))) (stays_list (Fr.keep (by k_asm)) (by assumption)) (by assumption) (by assumption) (stays_list (Fr.keep (by k_asm)) (by assumption)) (by assumption) (by assumption) (kpw3 (by k_asm) (by k_asm) ?_)); intro _ _ _ _ _ _)
  k_with "call ref" => (k_here; (with_reducible show wpAny _ _ (call (Value.ref 159) [Value.ref _, Value.ref _, Value.int _ _]) _ _ _); refine lower rfl (by decide) (by decide) (c_next (Frag.In.keeps (by k_asm) (Fr.keep (by k_asm))) (Top.keeps (by k_asm) (Fr.keep (by k_asm))) (stays_list (Fr.keep (by k_asm)) (by assumption)) (by assumption) (by assumption) (stays_list (Fr.keep (by k_asm)) (by assumption)) (by assumption) (by assumption) (by omega) (by omega) (kpw3 (by k_asm) (by k_asm) ?_)); intro _ _ _ _ _ _)
  have hl : s.heap.IsList l vs.toArray := ⟨_, (N _ hm).1, rfl, _, rfl⟩
  have hlv := hi.length
  have hpos : 0 < ns.length := List.length_pos_iff.mpr hne
  have hg : ns[ns.length - 1]? = some (ns.getLastD 0) := by
    rw [List.getLastD_eq_getLast?, List.getLast?_eq_getElem?]
    rw [List.getElem?_eq_getElem (by omega)]
    rfl
  obtain ⟨t, hv⟩ := hi.get _ _ hg
  refine tail_any hl.typeIs slot_list_getitem.lookup ?_ hs
  refine wpAny_getItem_list_neg hl (by decide) (by simp; omega) (by decide) ?_ (h t)
  rw [show ((-1 : Int) + (vs.toArray.size : Int)).toNat = ns.length - 1 by simp; omega]
  simpa using hv
theorem last_mem {l : List Int} (h : l ≠ []) : l.getLastD 0 ∈ l := by
  rw [List.getLastD_eq_getLast?, List.getLast?_eq_getLast h]
  exact List.getLast_mem h
theorem c_told {w : World} {s : Shared} {mean : ExcName → Option Value} {mg mb : Str → Option Value} {Q : Value → Shared → Prop} {E : Value → Shared → Prop} {l l2 : Addr} {vs vs2 : List Value} {ns ns2 : List Int}
    (X : (hd.heap_39 w.params).In s.heap) (T : Top hd.view_39 (looseW hd.view_39 [Str.ofString "insort_left", Str.ofString "bisect_left", Str.ofString "Whitespace"]) mean mg mb s.heap)
    (hl : s.heap.IsList l vs.toArray) (hi : IntsAre vs ns) (hn : ns.length = 4) (hl2 : s.heap.IsList l2 vs2.toArray) (hi2 : IntsAre vs2 ns2) (hn2 : ns2.length = 4)
    (h : ∀ h' tk' ld us n, Kp s.heap h' → s.heap.get? ld = none → h'.get? ld = some (listOf us.toArray n) → IntsAre us (tdF ns ns2) → Q (.ref ld) { s with heap := h', toks := tk' }) :
    wpAny (model Pg w) (Ar 470 270) (call (.ref 166) [.ref l, .ref l2]) Q E s := by
  k_with_none
  k_with "call ref" => (k_here; (with_reducible show wpAny _ _ (call (Value.ref 28) [Value.int _ _]) _ _ _); refine lower rfl (by decide) (by decide) (c_term (Frag.In.keeps (by k_asm) (Fr.keep (by k_asm))) (Top.keeps (by k_asm) (Fr.keep (by k_asm))) (kpw2 (by k_asm) (by k_asm) ?_)); intro _ _ _ _ _)
  k_with "call ref" => (k_here; (with_reducible show wpAny _ _ (call (Value.ref 152) [Value.ref _, Value.ref _, Value.int _ _]) _ _ _); refine lower rfl (by decide) (by decide) (c_whole (Frag.In.keeps (by k_asm) (Fr.keep (by k_asm))) (Top.keeps (by k_asm) (Fr.keep (by k_asm))) (stays_list (Fr.keep (by k_asm)) (by assumption)) (by assumption) (by assumption) (stays_list (Fr.keep (by k_asm)) (by assumption)) (by assumption) (by assumption) (kpw3 (by k_asm) (by k_asm) ?_)); intro _ _ _ _ _ _)
  k_with "call ref" => (k_here; (with_reducible show wpAny _ _ (call (Value.ref 159) [Value.ref _, Value.ref _, Value.int _ _]) _ _ _); refine lower rfl (by decide) (by decide) (c_next (Frag.In.keeps (by k_asm) (Fr.keep (by k_asm))) (Top.keeps (by k_asm) (Fr.keep (by k_asm))) (stays_list (Fr.keep (by k_asm)) (by assumption)) (by assumption) (by assumption) (stays_list (Fr.keep (by k_asm)) (by assumption)) (by assumption) (by assumption) (by omega) (by omega) (kpw3 (by k_asm) (by k_asm) ?_)); intro _ _ _ _ _ _)
  k_with "subscriptTail Name UnaryOp ref int" => (refine last_item (by k_asm) (by k_mem) (by assumption) (by assumption) (by assumption) ?_ (by with_unfolding_all rfl))
  refine' enter X T ?k6 ?k7 ?k8 ?k9 ?kB ?c2 ?c3 ?c4 ?c5 ?_
  case k6 => k_is
  case k7 => k_is
  case k8 => decide
  case k9 => exact BindsTo.of_eq rfl
  case kB => exact locs rfl
  case c2 => rfl
  case c3 => rfl
  case c4 => rfl
  case c5 => decide
  intro L' h₁ tk F' N'
  (try dsimp only)
  (try k_unmd)
  k_fold
  iterate 20 (first | walk1 | (dsimp only; walk1))
  rename_i h9 tk9 t9 hk9 ld h8 l1 h7 kF kN
  (try dsimp only)
  walk1
  k_dflt (refine ksw_while (σ := List Value × List Int × Nat) (fun c => [(ld, listOf c.1.toArray c.2.2)]) (fun _ => []) (fun c => IntsAre c.1 c.2.1) [] (fun c => c.2.1 ≠ [] ∧ c.2.1.length ≤ 16 ∧ (∀ v ∈ c.2.1, 0 ≤ v ∧ v < 16) ∧ tdGo ns ns2 (16 - c.2.1.length) c.2.1 = tdF ns ns2) (fun c => 16 - c.2.1.length) ([.int (whF ns ns2 0) t9], [whF ns ns2 0], 0) kF kN (.cons _ _ .nil) (fun _ hp => nomatch hp) ⟨by simp, by simp, ?_, rfl⟩ ?_)
  · intro v hv
    rw [List.mem_singleton.mp hv]
    exact shF_bnd _ _
  · rintro ⟨us, is, n⟩ u h' tk hI hJJ F N
    refine Classical.byContradiction fun hG => ?_
    obtain ⟨hne, hlen, hb, hgo⟩ := hJJ
    refine hG ?_
    clear hG
    dsimp only at hI hne hlen hb hgo F N
    have hla := hb _ (last_mem hne)
    have hla1 := hla.1
    have hla2 := hla.2
    have hus : us.length ≤ 16 := by rw [hI.length]; exact hlen
    (try k_fold)
    repeat' (first | (k_unfold; (try dsimp only)) | ((fail_if_success (with_reducible show InvEndN _ _ _ _ _ _ _)); (fail_if_success (with_reducible show KswEnd _ _ _ _ _ _ _ _ _ _ _ _)); (fail_if_success (with_reducible show LCg.CompEnd _ _ _ _ _ _ _ _ _ _ _ _ _ _)); (fail_if_success (with_reducible show LoopStepU _ _ _ _ _ _ _ _)); first | walk1 | (dsimp only; walk1)))
    · rename_i hc1 hc2 _ _ h9 tk9 t9 hk9 h8 kF kN
      have hc2' : is.length < 16 := by omega
      have hnx := nxF_bnd ns ns2 (is.getLastD 0)
      have hc1' : 241 + is.getLastD 0 < 256 := by
        by_cases hh : 241 + is.getLastD 0 < 256
        · exact hh
        · rw [decide_eq_false hh] at hc1; cases hc1
      refine ksw_end (us ++ [.int (nxF ns ns2 (is.getLastD 0)) t9], is ++ [nxF ns ns2 (is.getLastD 0)], n + 1) kF (by simpa using kN) (fun p hq => hq) (IntsAre.append hI (.cons _ _ .nil)) (fun _ hq => nomatch hq) ?_ ⟨by simp, by simp; omega, ?_, ?_⟩ (by simp; omega)
      · intro z _ _
        rfl
      · intro v hv
        rcases List.mem_append.mp hv with hv | hv
        · exact hb v hv
        · rw [List.mem_singleton.mp hv]; exact hnx
      · obtain ⟨j, hj⟩ : ∃ j, 16 - is.length = j + 1 := ⟨15 - is.length, by omega⟩
        rw [hj, tdGo, if_pos ⟨hc1', hc2'⟩] at hgo
        rw [show 16 - (is ++ [nxF ns ns2 (is.getLastD 0)]).length = j by simp; omega]
        exact hgo
    · rename_i hc1 hc2
      with_reducible rename Fr _ _ _ _ => kF
      with_reducible rename News _ _ _ _ => kN
      have hc2' : 16 - is.length = 0 := by omega
      rw [hc2', tdGo] at hgo
      rw [hgo] at hI
      have hm := kN (ld, _) List.mem_cons_self
      exact h _ _ ld us n kF.keep hm.2.2 hm.1 hI
    · rename_i hc1
      with_reducible rename Fr _ _ _ _ => kF
      with_reducible rename News _ _ _ _ => kN
      have hg' : tdGo ns ns2 (16 - is.length) is = is := by
        cases 16 - is.length with
        | zero => rfl
        | succ j =>
          rw [tdGo, if_neg]
          intro hq
          rw [decide_eq_true hq.1] at hc1; cases hc1
      rw [hg'] at hgo
      rw [hgo] at hI
      have hm := kN (ld, _) List.mem_cons_self
      exact h _ _ ld us n kF.keep hm.2.2 hm.1 hI
end RL
end
section
open PySem PySem.W PyProof.Rows PySem.Calls
namespace RL
theorem rst_B4 {M : Model} {A : Around} {env : Env} {Q : Flow → Shared → Prop} {E : Value → Shared → Prop} {s : Shared} (h : Q .next s) : wpAny M A (execs [] env) Q E s := by
  w_top off
  k_with_none
  first
    | (walk1; fail)
    | exact wpAny_execs_nil h
def cmG (ms : List Int) (c : Int) (a p : Int) : Int := if (c.fdiv (2 ^ p.toNat)).fmod 2 = 1 then Builtin.bitAnd a (ms.getD p.toNat 0) else a
def cmF (ms : List Int) (c : Int) : Int := (rangeKs 0 4).foldl (cmG ms c) 15
def chG (ms : List Int) (l : List Int) (c : Int) : List Int := if cmF ms c ∈ l then l else l ++ [cmF ms c]
def chL (ms : List Int) : List Int := (rangeKs 0 16).foldl (chG ms) []
theorem chG_len (ms l : List Int) (c : Int) : (chG ms l c).length ≤ l.length + 1 := by
  unfold chG
  split <;> simp
theorem chG_lens (ms : List Int) : ∀ (ks l : List Int), (ks.foldl (chG ms) l).length ≤ l.length + ks.length
  | [], l => by simp
  | k :: r, l => by
    have h1 := chG_lens ms r (chG ms l k)
    have h2 := chG_len ms l k
    simp only [List.foldl_cons, List.length_cons]
    omega
theorem c_choice {w : World} {s : Shared} {mean : ExcName → Option Value} {mg mb : Str → Option Value} {Q : Value → Shared → Prop} {E : Value → Shared → Prop} {l : Addr} {vs : List Value} {ns : List Int}
    (X : (hd.heap_39 w.params).In s.heap) (T : Top hd.view_39 (looseW hd.view_39 [Str.ofString "insort_left", Str.ofString "bisect_left", Str.ofString "Whitespace"]) mean mg mb s.heap)
    (hl : s.heap.IsList l vs.toArray) (hi : IntsAre vs ns) (hn : ns.length = 4)
    (h : ∀ h' tk' ld us n, Kp s.heap h' → s.heap.get? ld = none → h'.get? ld = some (listOf us.toArray n) → ∀ r, IntsAre us r → r.Perm (chL ns) → r.Pairwise (· ≤ ·) → Q (.ref ld) { s with heap := h', toks := tk' }) :
    wpAny (model Pg w) (Ar 470 270) (call (.ref 173) [.ref l]) Q E s := by
  refine' enter X T ?k6 ?k7 ?k8 ?k9 ?kB ?c2 ?c3 ?c4 ?c5 ?_
  case k6 => k_is
  case k7 => k_is
  case k8 => decide
  case k9 => exact BindsTo.of_eq rfl
  case kB => exact locs rfl
  case c2 => rfl
  case c3 => rfl
  case c4 => rfl
  case c5 => decide
  intro L' h₁ tk F' N'
  (try dsimp only)
  (try k_unmd)
  k_fold
  iterate 5 (first | walk1 | (dsimp only; walk1))
  rename_i ld h8 kF kN l1
  iterate 11 (first | walk1 | (dsimp only; walk1))
  k_dflt (refine kst_range (σ := List Value × List Int × Nat) (n := 16) (fun c => [(ld, listOf c.1.toArray c.2.2)]) (fun _ => []) (fun c => IntsAre c.1 c.2.1) [Str.ofString "common", Str.ofString "place"] (fun pre c => c.2.1 = pre.foldl (chG ns) []) ([], [], 0) rfl (by assumption) (by decide) (by rfl) (by assumption) (by assumption) .nil (fun _ hp => nomatch hp) rfl ?_ ?_)
  · rintro ⟨us, is, n⟩ pre k t u h' tk own hk hlt hoff hI hp F N
    dsimp only at hI hp
    have hk1 : 0 ≤ k := by omega
    have hk2 : k < 16 := by omega
    have hlen : is.length ≤ 16 := by
      have := chG_lens ns pre []
      rw [← hp] at this
      simp at this
      omega
    have hus : us.length ≤ 16 := by rw [hI.length]; exact hlen
    (try dsimp only)
    (try k_unmd)
    (try k_fold)
    iterate 13 (first | walk1 | (dsimp only; walk1))
    k_dflt (refine kst_range (σ := Int × Tok) (n := 4) (fun _ => [(ld, listOf us.toArray n)] ++ own) (fun c => [(Str.ofString "common", .int c.1 c.2)]) (fun _ => True) [] (fun pre c => c.1 = pre.foldl (cmG ns k) 15) (15, _) rfl (by assumption) (by decide) (by rfl) (by assumption) (by assumption) trivial (by intro p hp; rw [List.mem_singleton.mp hp]; rfl) rfl ?_ ?_)
    · rintro ⟨cv, ct⟩ pre2 k2 t2 u2 h2 tk2 own2 hk2' hlt2 hoff2 _ hp2 F2 N2
      dsimp only at hp2
      have hk21 : 0 ≤ k2 := by omega
      have hk22 : k2 < 4 := by omega
      (try dsimp only)
      (try k_unmd)
      (try k_fold)
      repeat' (first | (k_unfold; (try dsimp only)) | ((fail_if_success (with_reducible show InvEndN _ _ _ _ _ _ _)); (fail_if_success (with_reducible show KswEnd _ _ _ _ _ _ _ _ _ _ _ _)); (fail_if_success (with_reducible show LCg.CompEnd _ _ _ _ _ _ _ _ _ _ _ _ _ _)); (fail_if_success (with_reducible show LoopStepU _ _ _ _ _ _ _ _)); first | walk1 | (dsimp only; walk1)))
      · rename_i hc _ _ kF kN
        refine kst_end (Builtin.bitAnd cv (ns.getD k2.toNat 0), _) kF kN (fun p hq => List.mem_append_left _ hq) (fun p hq => List.mem_append_right _ hq) rfl trivial (by intro p hp; rw [List.mem_singleton.mp hp]; rfl) ?_ ?_
        · (intro z h1 h2 h3; simp only [List.contains_cons, List.contains_nil, Bool.or_false, Bool.or_eq_false_iff, beq_eq_false_iff_ne, ne_eq] at h3; simp only [List.forall_mem_cons, List.not_mem_nil, false_implies, implies_true, and_true, ne_eq] at h2; simp [h1, h2, h3, kstB])
        · rw [List.foldl_append, ← hp2, List.foldl_cons, List.foldl_nil, cmG, if_pos hc]
      · rename_i hc
        with_reducible rename Fr _ _ _ _ => kF
        with_reducible rename News _ _ _ _ => kN
        refine kst_end (cv, ct) kF kN (fun p hq => List.mem_append_left _ hq) (fun p hq => List.mem_append_right _ hq) rfl trivial (by intro p hp; rw [List.mem_singleton.mp hp]; rfl) ?_ ?_
        · (intro z h1 h2 h3; simp only [List.contains_cons, List.contains_nil, Bool.or_false, Bool.or_eq_false_iff, beq_eq_false_iff_ne, ne_eq] at h3; simp only [List.forall_mem_cons, List.not_mem_nil, false_implies, implies_true, and_true, ne_eq] at h2; simp [h1, h2, h3, kstB])
        · rw [List.foldl_append, ← hp2, List.foldl_cons, List.foldl_nil, cmG, if_neg hc]
    · rintro ⟨cv, ct⟩ u2 h2 tk2 _ hp2 F2 N2
      dsimp only at hp2
      have hcv : cv = cmF ns k := hp2
      repeat' (first | (k_unfold; (try dsimp only)) | ((fail_if_success (with_reducible show InvEndN _ _ _ _ _ _ _)); (fail_if_success (with_reducible show KswEnd _ _ _ _ _ _ _ _ _ _ _ _)); (fail_if_success (with_reducible show LCg.CompEnd _ _ _ _ _ _ _ _ _ _ _ _ _ _)); (fail_if_success (with_reducible show LoopStepU _ _ _ _ _ _ _ _)); first | walk1 | (dsimp only; walk1)))
      · rename_i hc
        have hmem : cmF ns k ∈ is := by
          rw [← hcv]
          obtain ⟨y, hy, e⟩ := List.any_eq_true.mp hc
          have : y = cv := by simpa using e
          rw [← this]; exact hy
        with_reducible rename Fr _ _ _ _ => kF
        with_reducible rename News _ _ _ _ => kN
        refine kst_end (us, is, n) kF kN (fun p hq => List.mem_append_left _ hq) (fun p hq => List.mem_append_right _ hq) rfl hI (fun _ hq => nomatch hq) ?_ ?_
        · (intro z h1 h2 h3; simp only [List.contains_cons, List.contains_nil, Bool.or_false, Bool.or_eq_false_iff, beq_eq_false_iff_ne, ne_eq] at h3; simp only [List.forall_mem_cons, List.not_mem_nil, false_implies, implies_true, and_true, ne_eq] at h2; simp [h1, h2, h3, kstB])
        · rw [List.foldl_append, ← hp, List.foldl_cons, List.foldl_nil, chG, if_pos hmem]
      · rename_i hc _ kF kN
        have hmem : ¬ cmF ns k ∈ is := by
          rw [← hcv]
          intro hm
          exact Bool.noConfusion (hc.symm.trans (List.any_eq_true.mpr ⟨cv, hm, beq_iff_eq.mpr rfl⟩))
        refine kst_end (us ++ [Value.int cv ct], is ++ [cv], n + 1) kF (news' := (ld, listOf (us ++ [Value.int cv ct]).toArray (n + 1)) :: own) (by simpa using kN) (fun p hq => by rw [List.mem_singleton.mp hq]; exact List.mem_cons_self) (fun p hq => List.mem_cons_of_mem _ hq) rfl (IntsAre.append hI (.cons _ _ .nil)) (fun _ hq => nomatch hq) ?_ ?_
        · (intro z h1 h2 h3; simp only [List.contains_cons, List.contains_nil, Bool.or_false, Bool.or_eq_false_iff, beq_eq_false_iff_ne, ne_eq] at h3; simp only [List.forall_mem_cons, List.not_mem_nil, false_implies, implies_true, and_true, ne_eq] at h2; simp [h1, h2, h3, kstB])
        · rw [List.foldl_append, ← hp, List.foldl_cons, List.foldl_nil, chG, if_neg hmem, hcv]
  · rintro ⟨us, is, n⟩ u h' tk hI hp F N
    dsimp only at hI hp
    have hlen : is.length < 64 := by
      have := chG_lens ns (rangeKs 0 16) []
      rw [← hp, rangeKs_length] at this
      simp at this
      omega
    repeat' (first | (k_unfold; (try dsimp only)) | ((fail_if_success (with_reducible show InvEndN _ _ _ _ _ _ _)); (fail_if_success (with_reducible show KswEnd _ _ _ _ _ _ _ _ _ _ _ _)); (fail_if_success (with_reducible show LCg.CompEnd _ _ _ _ _ _ _ _ _ _ _ _ _ _)); (fail_if_success (with_reducible show LoopStepU _ _ _ _ _ _ _ _)); first | walk1 | (dsimp only; walk1)))
    with_reducible rename Fr _ _ _ _ => kF
    with_reducible rename News _ _ _ _ => kN
    with_reducible rename IntsAre _ _ => i'
    with_reducible rename List.Perm _ _ => p'
    with_reducible rename List.Pairwise _ _ => o'
    have hm := kN _ List.mem_cons_self
    rw [hp] at p'
    exact h _ _ _ _ _ kF.keep hm.2.2 hm.1 _ i' p' o'
end RL
end
section
open PySem PySem.W PyProof.Rows PySem.Calls
namespace RL
section
variable {w : World} {s : Shared} {mean : ExcName → Option Value} {mg mb : Str → Option Value} {d u : Nat} {Q : Value → Shared → Prop} {E : Value → Shared → Prop}
 {name qual : Str} {params : Arguments} {body : List Stmt} {scope : Scope} {dV kV doc pm cdv ct oc : Value} {an od : Option Addr} {osl : Array (Option Value)} {f : Addr} {vs : List Value} {binds : List (Str × Value)} {h₀ : Heap} {led : List (Addr × Obj)}
theorem enterH (hk₀ : Kp h₀ s.heap) (X : (hd.heap_39 w.params).In h₀) (T : Top hd.view_39 (looseW hd.view_39 [Str.ofString "insort_left", Str.ofString "bisect_left", Str.ofString "Whitespace"]) mean mg mb h₀)
    (hled : ∀ p ∈ led, s.heap.get? p.1 = some p.2 ∧ h₀.get? p.1 = none)
    (ho : (hd.heap_39 w.params).lookup f = some ⟨oc, od, .func (fnOf name qual params body scope dV kV doc pm an cdv ct), osl⟩) (hcd : codeIn (hd.heap_39 w.params) cdv qual = true) (hroom : d < recursionLimit)
    (hbind : BindsTo s (fnOf name qual params body scope dV kV doc pm an cdv ct) ⟨vs, []⟩ binds) (hloc : ∀ y ∈ binds, scope.names.lookup y.1 = some .local)
    (hco : scope.isCoroutine = false) (hgen : scope.isGenerator = false) (hk : scope.kind = .function) (hcell : ∀ x ∈ scope.names, x.2 ≠ .cell)
    (h : ∀ g L' h₁ tk, (∀ b o, b ∉ led.map (·.1) → s.heap.get? b = some o → g.get? b = some o) → Kp h₀ g → (hd.heap_39 w.params).In g → Top hd.view_39 (looseW hd.view_39 [Str.ofString "insort_left", Str.ofString "bisect_left", Str.ofString "Whitespace"]) mean mg mb g →
      Fr g L' h₁ (fun y => binds.reverse.lookup y) → News g L' h₁ led → (∀ p ∈ led, p.1 < L') →
      wpAny (model Pg w) (Ar (d + 1) (u + 3)) (execs body (envOf qual scope L' f cdv))
        (fun fl s' => Q (match fl with | .ret v => v | _ => .none) s') (fun _ _ => False) { s with heap := h₁, toks := tk }) :
    wpAny (model Pg w) (Ar d u) (call (.ref f) vs) Q E s := by
  refine wpAny_call ?_
  have X' := X.keeps hk₀
  have hg : ∀ b o, b ∉ led.map (·.1) → s.heap.get? b = some o → (hideAll s.heap (led.map (·.1))).get? b = some o := fun b o hb e => hideAll_get _ e hb
  have hg0 : Kp h₀ (hideAll s.heap (led.map (·.1))) := fun b o e => hg b o (fun hm => by
    obtain ⟨p, hp, rfl⟩ := List.mem_map.mp hm
    rw [(hled p hp).2] at e; cases e) (hk₀ b o e)
  refine codeAny_call_def (fd := fnX name qual params body scope [] dV kV doc pm an cdv ct) (body := body) (binds := binds) hroom (X' _ _ ho) rfl (T.nolimit.keeps hk₀) (codeRec_of X' hcd) rfl hbind hcell hloc (fun h₁ hns hk₁ => ?_) hco hgen hk
  exact wpAny_mono (h _ s.heap.objs.size h₁ _ hg hg0 (X.keeps hg0) (T.keeps hg0) ⟨hns, fun b o e => hk₁ b o (of_hideAll _ e), Nat.le_of_eq (hideAll_size _ _)⟩
    (fun p hp => ⟨hk₁ _ _ (hled p hp).1, Nat.ne_of_lt (Heap.lt_size (hled p hp).1), hideAll_none _ (List.mem_map_of_mem hp)⟩) (fun p hp => Heap.lt_size (hled p hp).1)) (fun fl s' x => x) (fun _ _ x => x.elim)
end
theorem mid_bnd {a b : Int} (h : 0 ≤ a) (hb : a < b) : 0 ≤ (a + b).fdiv 2 ∧ (a + b).fdiv 2 < b ∧ a ≤ (a + b).fdiv 2 := by
  rw [Int.fdiv_eq_ediv_of_nonneg _ (by decide)]
  omega
def bsGo (ns : List Int) (x : Int) : Nat → Int → Int → Int
  | 0, lo, _ => lo
  | n + 1, lo, hi => if lo < hi then (if ns.getD ((lo + hi).fdiv 2).toNat 0 < x then bsGo ns x n ((lo + hi).fdiv 2 + 1) hi else bsGo ns x n lo ((lo + hi).fdiv 2)) else lo
def bsF (ns : List Int) (x : Int) : Int := bsGo ns x ns.length 0 ns.length
theorem look_eq {K : Frag} {a : Addr} {o1 o2 : Obj} (h1 : K.lookup a = some o1) (h2 : K.lookup a = some o2) : o1 = o2 := Option.some.inj (h1.symm.trans h2)
theorem fr_ps0 {h₀ : Heap} {L : Addr} {h : Heap} {m : Str → Option Value} {ps : List (Str × Value)} (h1 : ∀ p ∈ ps, m p.1 = some p.2) (F : Fr h₀ L h m) : Fr h₀ L h (kstB m ps) := by
  have e : kstB m ps = m := by
    funext y
    exact kstB_eq h1 fun _ => rfl
  rw [e]
  exact F
theorem bis_body {w : World} {s : Shared} {mean : ExcName → Option Value} {mg mb : Str → Option Value} {Q : Value → Shared → Prop} {l : Addr} {vs : List Value} {ns : List Int} {x : Int} {t tz : Tok}
    {name qual : Str} {params : Arguments} {body : List Stmt} {scope : Scope} {dV kV doc pm cdv ct oc : Value} {an od : Option Addr} {osl : Array (Option Value)} {L' : Addr} {h₁ : Heap} {tk : Nat} {m : Str → Option Value}
    (hb : (hd.heap_39 w.params).lookup 60 = some ⟨oc, od, .func (fnOf name qual params body scope dV kV doc pm an cdv ct), osl⟩)
    (X : (hd.heap_39 w.params).In s.heap) (T : Top hd.view_39 (looseW hd.view_39 [Str.ofString "insort_left", Str.ofString "bisect_left", Str.ofString "Whitespace"]) mean mg mb s.heap)
    (hl : s.heap.IsList l vs.toArray) (hi : IntsAre vs ns) (hn : ns.length ≤ 40)
    (F' : Fr s.heap L' h₁ m) (N' : News s.heap L' h₁ []) (hm : ∀ p ∈ [(Str.ofString "a", Value.ref l), (Str.ofString "x", Value.int x t), (Str.ofString "lo", Value.int 0 tz), (Str.ofString "hi", Value.none), (Str.ofString "key", Value.none)], m p.1 = some p.2)
    (h : ∀ h' tk' t', Kp s.heap h' → Q (.int (bsF ns x) t') { s with heap := h', toks := tk' }) :
    wpAny (model Pg w) (Ar (500 + 1) (300 + 3)) (execs body (envOf qual scope L' 60 cdv)) (fun fl s' => Q (match fl with | .ret v => v | _ => .none) s') (fun _ _ => False) { s with heap := h₁, toks := tk } := by
  have e0 := look_eq hb (by k_is)
  injection e0 with e1 e2 e3 e4
  injection e3 with e5
  injection e5 with f1 f2 f3 f4 f5 f6 f7 f8 f9 f10 f11 f12 f13 f14
  injection f4 with f4
  clear hb
  subst f2 f4 f5
  clear e1 e2 e4 f1 f3 f6 f7 f8 f9 f10 f11 f12 f13 f14
  replace F' := fr_ps0 hm F'
  dsimp only [kstB] at F'
  have hlv := hi.length
  (try dsimp only)
  (try k_unmd)
  k_fold
  repeat (first | (k_unfold; (try dsimp only)) | ((fail_if_success (with_reducible show wpAny _ _ (exec (PySem.Stmt.While _ _ _ _) _) _ _ _)); (fail_if_success (with_reducible show wpAny _ _ (pyIter _) _ _ _)); (fail_if_success (with_reducible show wpAny _ _ (eval (PySem.Expr.ListComp _ _ _ _) _) _ _ _)); first | walk1 | (dsimp only; walk1)))
  rename_i t9 h9 kF kN
  k_dflt (refine ksw_while (σ := (Int × Tok) × (Int × Tok)) (fun _ => []) (fun c => [(Str.ofString "lo", Value.int c.1.1 c.1.2), (Str.ofString "hi", Value.int c.2.1 c.2.2)]) (fun _ => True) [Str.ofString "mid"] (fun c => 0 ≤ c.1.1 ∧ c.1.1 ≤ c.2.1 ∧ c.2.1 ≤ ns.length ∧ ∃ f : Nat, c.2.1 - c.1.1 ≤ f ∧ bsGo ns x f c.1.1 c.2.1 = bsF ns x) (fun c => (c.2.1 - c.1.1).toNat) ((0, tz), (ns.length, t9 + 1)) kF kN trivial (List.forall_mem_cons.mpr ⟨rfl, List.forall_mem_cons.mpr ⟨rfl, List.forall_mem_nil _⟩⟩) ⟨by simp, by simp, by simp, ns.length, by simp, rfl⟩ ?_)
  · rintro ⟨⟨lo, tl⟩, ⟨hI, th⟩⟩ u h' tk _ hJJ F N
    refine Classical.byContradiction fun hG => ?_
    obtain ⟨h0, hlh, hhn, f, hf, hgo⟩ := hJJ
    refine hG ?_
    clear hG
    dsimp only at h0 hlh hhn hf hgo
    have hm1 : PUnit.{1} → lo < hI → 0 ≤ (lo + hI).fdiv 2 ∧ (lo + hI).fdiv 2 < hI ∧ lo ≤ (lo + hI).fdiv 2 := fun _ hc => mid_bnd h0 hc
    (try k_fold)
    repeat' (first | (k_unfold; (try dsimp only)) | ((fail_if_success (with_reducible show InvEndN _ _ _ _ _ _ _)); (fail_if_success (with_reducible show KswEnd _ _ _ _ _ _ _ _ _ _ _ _)); (fail_if_success (with_reducible show LCg.CompEnd _ _ _ _ _ _ _ _ _ _ _ _ _ _)); (fail_if_success (with_reducible show LoopStepU _ _ _ _ _ _ _ _)); first | walk1 | (dsimp only; walk1)))
    · rename_i hc1 _ _ hc2 _ kF kN
      dsimp only at hc1 hc2
      obtain ⟨m1, m2, m3⟩ := hm1 ⟨⟩ hc1
      obtain ⟨j, rfl⟩ : ∃ j, f = j + 1 := ⟨f - 1, by omega⟩
      rw [bsGo, if_pos hc1, if_pos hc2] at hgo
      refine ksw_end (((lo + hI).fdiv 2 + 1, _), (hI, th)) kF kN (fun _ hq => nomatch hq) trivial (List.forall_mem_cons.mpr ⟨rfl, List.forall_mem_cons.mpr ⟨rfl, List.forall_mem_nil _⟩⟩) ?_ ⟨by dsimp only; omega, by dsimp only; omega, by dsimp only; omega, j, by dsimp only; omega, hgo⟩ (by dsimp only; omega)
      (intro z h2 h3; simp only [List.contains_cons, List.contains_nil, Bool.or_false, Bool.or_eq_false_iff, beq_eq_false_iff_ne, ne_eq] at h3; simp only [List.forall_mem_cons, List.not_mem_nil, false_implies, implies_true, and_true, ne_eq] at h2; simp [h2, h3, kstB])
    · rename_i hc1 _ _ hc2 _ kF kN
      dsimp only at hc1 hc2
      obtain ⟨m1, m2, m3⟩ := hm1 ⟨⟩ hc1
      obtain ⟨j, rfl⟩ : ∃ j, f = j + 1 := ⟨f - 1, by omega⟩
      rw [bsGo, if_pos hc1, if_neg hc2] at hgo
      refine ksw_end ((lo, tl), ((lo + hI).fdiv 2, _)) kF kN (fun _ hq => nomatch hq) trivial (List.forall_mem_cons.mpr ⟨rfl, List.forall_mem_cons.mpr ⟨rfl, List.forall_mem_nil _⟩⟩) ?_ ⟨by dsimp only; omega, by dsimp only; omega, by dsimp only; omega, j, by dsimp only; omega, hgo⟩ (by dsimp only; omega)
      (intro z h2 h3; simp only [List.contains_cons, List.contains_nil, Bool.or_false, Bool.or_eq_false_iff, beq_eq_false_iff_ne, ne_eq] at h3; simp only [List.forall_mem_cons, List.not_mem_nil, false_implies, implies_true, and_true, ne_eq] at h2; simp [h2, h3, kstB])
    · rename_i hc1
      dsimp only at hc1
      with_reducible rename Fr _ _ _ _ => kF
      have hv : bsF ns x = lo := by
        rw [← hgo]
        cases f with
        | zero => rfl
        | succ j => rw [bsGo, if_neg hc1]
      rw [hv] at h
      exact h _ _ _ kF.keep
theorem c_bisect {w : World} {s : Shared} {mean : ExcName → Option Value} {mg mb : Str → Option Value} {Q : Value → Shared → Prop} {E : Value → Shared → Prop} {l : Addr} {vs : List Value} {ns : List Int} {x : Int} {t : Tok}
    (X : (hd.heap_39 w.params).In s.heap) (T : Top hd.view_39 (looseW hd.view_39 [Str.ofString "insort_left", Str.ofString "bisect_left", Str.ofString "Whitespace"]) mean mg mb s.heap)
    (hl : s.heap.IsList l vs.toArray) (hi : IntsAre vs ns) (hn : ns.length ≤ 40)
    (h : ∀ h' tk' t', Kp s.heap h' → Q (.int (bsF ns x) t') { s with heap := h', toks := tk' }) :
    wpAny (model Pg w) (Ar 500 300) (call (.ref 60) [.ref l, .int x t]) Q E s := by
  refine' enter X T ?k6 ?k7 ?k8 ?k9 ?kB ?c2 ?c3 ?c4 ?c5 ?_
  case k6 => k_is
  case k7 => k_is
  case k8 => decide
  case k9 => exact kp_binds X (fun _ => rfl)
  case kB => exact locs rfl
  case c2 => rfl
  case c3 => rfl
  case c4 => rfl
  case c5 => decide
  intro L' h₁ tk F' N'
  exact bis_body (by k_is) X T hl hi hn F' N' (List.forall_mem_cons.mpr ⟨rfl, List.forall_mem_cons.mpr ⟨rfl, List.forall_mem_cons.mpr ⟨rfl, List.forall_mem_cons.mpr ⟨rfl, List.forall_mem_cons.mpr ⟨rfl, List.forall_mem_nil _⟩⟩⟩⟩⟩) h
theorem c_bisect4 {w : World} {s : Shared} {mean : ExcName → Option Value} {mg mb : Str → Option Value} {Q : Value → Shared → Prop} {E : Value → Shared → Prop} {l : Addr} {vs : List Value} {ns : List Int} {x : Int} {t t0 : Tok}
    (X : (hd.heap_39 w.params).In s.heap) (T : Top hd.view_39 (looseW hd.view_39 [Str.ofString "insort_left", Str.ofString "bisect_left", Str.ofString "Whitespace"]) mean mg mb s.heap)
    (hl : s.heap.IsList l vs.toArray) (hi : IntsAre vs ns) (hn : ns.length ≤ 40)
    (h : ∀ h' tk' t', Kp s.heap h' → Q (.int (bsF ns x) t') { s with heap := h', toks := tk' }) :
    wpAny (model Pg w) (Ar 500 300) (call (.ref 60) [.ref l, .int x t, .int 0 t0, .none]) Q E s := by
  refine' enter X T ?k6 ?k7 ?k8 ?k9 ?kB ?c2 ?c3 ?c4 ?c5 ?_
  case k6 => k_is
  case k7 => k_is
  case k8 => decide
  case k9 => exact kp_binds X (fun _ => rfl)
  case kB => exact locs rfl
  case c2 => rfl
  case c3 => rfl
  case c4 => rfl
  case c5 => decide
  intro L' h₁ tk F' N'
  exact bis_body (by k_is) X T hl hi hn F' N' (List.forall_mem_cons.mpr ⟨rfl, List.forall_mem_cons.mpr ⟨rfl, List.forall_mem_cons.mpr ⟨rfl, List.forall_mem_cons.mpr ⟨rfl, List.forall_mem_cons.mpr ⟨rfl, List.forall_mem_nil _⟩⟩⟩⟩⟩) h
end RL
end
section
open PySem PySem.W PyProof.Rows PySem.Calls
namespace RL
theorem bsGo_bnd (ns : List Int) (x : Int) : ∀ (f : Nat) (lo hi : Int), 0 ≤ lo → lo ≤ hi → lo ≤ bsGo ns x f lo hi ∧ bsGo ns x f lo hi ≤ hi
  | 0, lo, hi, _, h => by unfold bsGo; omega
  | f + 1, lo, hi, h0, h => by
    unfold bsGo
    split
    · rename_i hc
      obtain ⟨m1, m2, m3⟩ := mid_bnd h0 hc
      split
      · have := bsGo_bnd ns x f ((lo + hi).fdiv 2 + 1) hi (by omega) (by omega)
        omega
      · have := bsGo_bnd ns x f lo ((lo + hi).fdiv 2) h0 m3
        omega
    · omega
theorem bsF_bnd (ns : List Int) (x : Int) : 0 ≤ bsF ns x ∧ bsF ns x ≤ ns.length := bsGo_bnd ns x ns.length 0 ns.length (by omega) (by omega)
def isF (ns : List Int) (x : Int) : List Int := ns.take (bsF ns x).toNat ++ x :: ns.drop (bsF ns x).toNat
theorem ints_take {vs : List Value} {ns : List Int} (h : IntsAre vs ns) : ∀ k : Nat, IntsAre (vs.take k) (ns.take k) := by
  induction h with
  | nil => intro k; simp; exact .nil
  | cons m t _ ih => intro k; cases k with
    | zero => exact .nil
    | succ j => exact .cons m t (ih j)
theorem ints_drop {vs : List Value} {ns : List Int} (h : IntsAre vs ns) : ∀ k : Nat, IntsAre (vs.drop k) (ns.drop k) := by
  induction h with
  | nil => intro k; simp; exact .nil
  | cons m t h' ih => intro k; cases k with
    | zero => exact .cons m t h'
    | succ j => exact ih j
theorem fits_small {x : Int} (h0 : 0 ≤ x) (h1 : x ≤ 40) : Builtin.List.listFitsIndex x = true := by
  unfold Builtin.List.listFitsIndex
  simp
  omega
theorem ins_ints {vs : List Value} {ns : List Int} {x y : Int} {t : Tok} (h : IntsAre vs ns) (h0 : 0 ≤ x) (h1 : x ≤ ns.length) : IntsAre (kl_ins vs x (.int y t)) (ns.take x.toNat ++ y :: ns.drop x.toNat) := by
  unfold kl_ins
  have hl := h.length
  rw [if_neg (by omega), show min x.toNat vs.length = x.toNat by omega]
  exact IntsAre.append (ints_take h _) (.cons _ _ (ints_drop h _))
theorem c_insort {w : World} {s : Shared} {mean : ExcName → Option Value} {mg mb : Str → Option Value} {Q : Value → Shared → Prop} {E : Value → Shared → Prop} {h₀ : Heap} {l : Addr} {vs : List Value} {ns : List Int} {n : Nat} {x : Int} {t : Tok}
    (hk₀ : Kp h₀ s.heap) (X : (hd.heap_39 w.params).In h₀) (T : Top hd.view_39 (looseW hd.view_39 [Str.ofString "insort_left", Str.ofString "bisect_left", Str.ofString "Whitespace"]) mean mg mb h₀)
    (hl : s.heap.get? l = some (listOf vs.toArray n)) (h0 : h₀.get? l = none) (hi : IntsAre vs ns) (hn : ns.length ≤ 40)
    (h : ∀ h' tk' vs' n', (∀ b o, b ≠ l → s.heap.get? b = some o → h'.get? b = some o) → h'.get? l = some (listOf vs'.toArray n') → IntsAre vs' (isF ns x) → Q .none { s with heap := h', toks := tk' }) :
    wpAny (model Pg w) (Ar 490 290) (call (.ref 51) [.ref l, .int x t]) Q E s := by
  k_with_none
  k_with "call ref" => (k_here; (with_reducible show wpAny _ _ (call (Value.ref 60) [Value.ref _, Value.int _ _, Value.int 0 _, Value.none]) _ _ _); refine lower rfl (by decide) (by decide) (c_bisect4 (Frag.In.keeps (by assumption) (Fr.keep (by k_asm))) (Top.keeps (by assumption) (Fr.keep (by k_asm))) ⟨_, (News.get (by k_asm) List.mem_cons_self), rfl, _, rfl⟩ (by assumption) (by assumption) (kpw3 (by k_asm) (by k_asm) ?_)); intro _ _ _ _ _ _)
  refine' enterH hk₀ X T (led := [(l, listOf vs.toArray n)]) (List.forall_mem_cons.mpr ⟨⟨hl, h0⟩, List.forall_mem_nil _⟩) ?k6 ?k7 ?k8 ?k9 ?kB ?c2 ?c3 ?c4 ?c5 ?_
  case k6 => k_is
  case k7 => k_is
  case k8 => decide
  case k9 => exact kp_binds (X.keeps hk₀) (fun _ => rfl)
  case kB => exact locs rfl
  case c2 => rfl
  case c3 => rfl
  case c4 => rfl
  case c5 => decide
  intro g L' h₁ tk hg hg0 X' T' F' N' hlt
  have hlv := hi.length
  (try dsimp only)
  (try k_unmd)
  k_fold
  clear X T
  repeat' (first | (k_unfold; (try dsimp only)) | ((fail_if_success (with_reducible show InvEndN _ _ _ _ _ _ _)); (fail_if_success (with_reducible show KswEnd _ _ _ _ _ _ _ _ _ _ _ _)); (fail_if_success (with_reducible show LCg.CompEnd _ _ _ _ _ _ _ _ _ _ _ _ _ _)); (fail_if_success (with_reducible show LoopStepU _ _ _ _ _ _ _ _)); first | walk1 | (dsimp only; walk1)))
  with_reducible rename Fr _ _ _ _ => kF
  with_reducible rename News _ _ _ _ => kN
  have hb := bsF_bnd ns x
  refine kl_insert kF kN (fits_small hb.1 (by omega)) rfl (Upd.head (List.forall_mem_nil _)) (by simp; size_fits) ?_
  intro h' F9 N9
  repeat' (first | (k_unfold; (try dsimp only)) | ((fail_if_success (with_reducible show InvEndN _ _ _ _ _ _ _)); (fail_if_success (with_reducible show KswEnd _ _ _ _ _ _ _ _ _ _ _ _)); (fail_if_success (with_reducible show LCg.CompEnd _ _ _ _ _ _ _ _ _ _ _ _ _ _)); (fail_if_success (with_reducible show LoopStepU _ _ _ _ _ _ _ _)); first | walk1 | (dsimp only; walk1)))
  exact h h' _ _ _ (fun b o hb e => F9.keep b o (hg b o (by simpa using hb) e)) (N9 _ List.mem_cons_self).1 (ins_ints hi hb.1 hb.2)
end RL
end
section
open PySem PySem.W PyProof.Rows PySem.Calls
namespace RL
def hvI (m : Int) (l : List Int) (o : Int) : List Int := if bsF l (Builtin.bitAnd m o) = l.length ∨ l.getD (bsF l (Builtin.bitAnd m o)).toNat 0 ≠ Builtin.bitAnd m o then isF l (Builtin.bitAnd m o) else l
def hvG (l : List Int) (m : Int) : List Int := l.foldl (hvI m) l
def hvF (ms : List Int) : List Int := ms.foldl hvG [15]
theorem isF_len (l : List Int) (x : Int) : (isF l x).length = l.length + 1 := by
  have := bsF_bnd l x
  unfold isF
  rw [List.length_append, List.length_cons, List.length_take, List.length_drop]
  omega
theorem hvI_len (m : Int) (l : List Int) (o : Int) : l.length ≤ (hvI m l o).length ∧ (hvI m l o).length ≤ l.length + 1 := by
  unfold hvI
  split
  · rw [isF_len]; omega
  · omega
theorem hvI_lens (m : Int) : ∀ (ks l : List Int), l.length ≤ (ks.foldl (hvI m) l).length ∧ (ks.foldl (hvI m) l).length ≤ l.length + ks.length
  | [], l => by simp
  | k :: r, l => by
    have h1 := hvI_lens m r (hvI m l k)
    have h2 := hvI_len m l k
    simp only [List.foldl_cons, List.length_cons]
    omega
theorem hvG_len (l : List Int) (m : Int) : (hvG l m).length ≤ 2 * l.length := by
  have := hvI_lens m l l
  unfold hvG
  omega
theorem hv_lens : ∀ (ks l : List Int), (ks.foldl hvG l).length ≤ 2 ^ ks.length * l.length
  | [], l => by simp
  | k :: r, l => by
    have h1 := hv_lens r (hvG l k)
    have h2 := hvG_len l k
    simp only [List.foldl_cons, List.length_cons]
    calc _ ≤ 2 ^ r.length * (hvG l k).length := h1
      _ ≤ 2 ^ r.length * (2 * l.length) := Nat.mul_le_mul_left _ h2
      _ = 2 ^ (r.length + 1) * l.length := by rw [Nat.pow_succ, Nat.mul_assoc]
theorem pick_all (vs : List Value) : slicePick vs.toArray none none none = vs.toArray := by
  have e : sliceBounds none none none vs.toArray.size = (((0 : Nat) : Int), ((vs.length : Nat) : Int), 1) := by
    simp [sliceBounds]
  rw [kmk_pick_nat _ e]
  simp
theorem slice_all {vs : List Value} {ns : List Int} (h : IntsAre vs ns) : IntsAre (slicePick vs.toArray none none none).toList ns := by
  rw [pick_all]
  simpa using h
theorem fr_but1 {h₀ h h' : Heap} {L l : Addr} {m : Str → Option Value} (F : Fr h₀ L h m) (hk : ∀ b o, b ≠ l → h.get? b = some o → h'.get? b = some o) (hL : l ≠ L) (hl : h₀.get? l = none) : Fr h₀ L h' m :=
  LCg.fr_but (I := l) F (fun b o hb e => hk b o (by simpa using hb) e) (Ne.symm hL) hl
theorem news_but1 {h₀ h h' : Heap} {L l : Addr} {o o' : Obj} {rest : List (Addr × Obj)} (N : News h₀ L h ((l, o) :: rest)) (hk : ∀ b o, b ≠ l → h.get? b = some o → h'.get? b = some o) (hl : h'.get? l = some o') (hr : ∀ p ∈ rest, p.1 ≠ l) : News h₀ L h' ((l, o') :: rest) := by
  intro p hp
  rcases List.mem_cons.mp hp with rfl | hp
  · exact ⟨hl, (N _ List.mem_cons_self).2⟩
  · exact ⟨hk _ _ (hr p hp) (N p (List.mem_cons_of_mem _ hp)).1, (N p (List.mem_cons_of_mem _ hp)).2⟩
theorem news_none {h₀ h : Heap} {L l : Addr} {o : Obj} {rest : List (Addr × Obj)} (N : News h₀ L h ((l, o) :: rest)) : h₀.get? l = none := (N _ List.mem_cons_self).2.2
theorem kpwI {h₀ h : Heap} {L l : Addr} {m : Str → Option Value} {us : List Value} {n : Nat} {rest : List (Addr × Obj)} {I : List Value → Prop} {R : Heap → Nat → List Value → Nat → Prop} (F : Fr h₀ L h m) (N : News h₀ L h ((l, listOf us.toArray n) :: rest)) (hr : ∀ p ∈ rest, p.1 ≠ l)
    (k : ∀ h' tk' vs' n', (∀ b o, b ≠ l → h.get? b = some o → h'.get? b = some o) → h'.get? l = some (listOf (List.toArray vs') n') → I vs' → Fr h₀ L h' m → News h₀ L h' ((l, listOf (List.toArray vs') n') :: rest) → R h' tk' vs' n') :
    ∀ h' tk' vs' n', (∀ b o, b ≠ l → h.get? b = some o → h'.get? b = some o) → h'.get? l = some (listOf (List.toArray vs') n') → I vs' → R h' tk' vs' n' :=
  fun h' tk' vs' n' hk hg hi => k h' tk' vs' n' hk hg hi (fr_but1 F hk (N _ List.mem_cons_self).2.1 (N _ List.mem_cons_self).2.2) (news_but1 N hk hg hr)
theorem c_halving {w : World} {s : Shared} {mean : ExcName → Option Value} {mg mb : Str → Option Value} {Q : Value → Shared → Prop} {E : Value → Shared → Prop} {l : Addr} {vs : List Value} {ns : List Int}
    (X : (hd.heap_39 w.params).In s.heap) (T : Top hd.view_39 (looseW hd.view_39 [Str.ofString "insort_left", Str.ofString "bisect_left", Str.ofString "Whitespace"]) mean mg mb s.heap)
    (hl : s.heap.IsList l vs.toArray) (hi : IntsAre vs ns) (hn : ns.length = 4)
    (h : ∀ h' tk' ld us n, Kp s.heap h' → s.heap.get? ld = none → h'.get? ld = some (listOf us.toArray n) → IntsAre us (hvF ns) → Q (.ref ld) { s with heap := h', toks := tk' }) :
    wpAny (model Pg w) (Ar 470 270) (call (.ref 180) [.ref l]) Q E s := by
  k_with_none
  k_with "call ref" => (k_here; (with_reducible show wpAny _ _ (call (Value.ref 51) [Value.ref _, Value.int _ _]) _ _ _); refine lower rfl (by decide) (by decide) (c_insort (Fr.keep (by k_asm)) (by assumption) (by assumption) (News.get (by k_asm) List.mem_cons_self) (news_none (by k_asm)) (by assumption) (by omega) (kpwI (by k_asm) (by k_asm) (by assumption) ?_)); intro _ _ _ _ _ _ _ _ _)
  k_with "call ref" => (k_here; (with_reducible show wpAny _ _ (call (Value.ref 60) [Value.ref _, Value.int _ _]) _ _ _); refine lower rfl (by decide) (by decide) (c_bisect (Frag.In.keeps (by assumption) (Fr.keep (by k_asm))) (Top.keeps (by assumption) (Fr.keep (by k_asm))) ⟨_, (News.get (by k_asm) List.mem_cons_self), rfl, _, rfl⟩ (by assumption) (by omega) (kpw3 (by k_asm) (by k_asm) ?_)); intro _ _ _ _ _ _)
  refine' enter X T ?k6 ?k7 ?k8 ?k9 ?kB ?c2 ?c3 ?c4 ?c5 ?_
  case k6 => k_is
  case k7 => k_is
  case k8 => decide
  case k9 => exact BindsTo.of_eq rfl
  case kB => exact locs rfl
  case c2 => rfl
  case c3 => rfl
  case c4 => rfl
  case c5 => decide
  intro L' h₁ tk F' N'
  (try dsimp only)
  (try k_unmd)
  k_fold
  repeat (first | (k_unfold; (try dsimp only)) | ((fail_if_success (with_reducible show wpAny _ _ (exec (PySem.Stmt.While _ _ _ _) _) _ _ _)); (fail_if_success (with_reducible show wpAny _ _ (pyIter _) _ _ _)); (fail_if_success (with_reducible show wpAny _ _ (eval (PySem.Expr.ListComp _ _ _ _) _) _ _ _)); first | walk1 | (dsimp only; walk1)))
  rename_i hi tk0 lr h8 l1 h7 kF kN
  k_dflt (refine kst_list (σ := List Value × List Int × Nat) (fun c => [(lr, listOf c.1.toArray c.2.2)]) (fun _ => []) (fun c => IntsAre c.1 c.2.1) [Str.ofString "other", Str.ofString "both", Str.ofString "spot"] (fun pre c => c.2.1 = pre.foldl hvG [15]) ([.int 15 tk0], [15], 0) rfl hl hi kF kN (.cons _ _ .nil) (fun _ hp => nomatch hp) rfl ?_ ?_)
  · rintro ⟨us, is, n⟩ pre post m tm u h' tk own hsp hmem hoff hI hp F N
    dsimp only at hI hp
    have hlen : is.length ≤ 8 := by
      have h1 := hv_lens pre [15]
      rw [← hp] at h1
      have h2 : pre.length ≤ 3 := by
        have := congrArg List.length hsp
        simp at this
        omega
      have h3 : 2 ^ pre.length ≤ 2 ^ 3 := Nat.pow_le_pow_right (by decide) h2
      simp at h1
      omega
    have hus : us.length = is.length := hI.length
    (try dsimp only)
    (try k_unmd)
    (try k_fold)
    repeat (first | (k_unfold; (try dsimp only)) | ((fail_if_success (with_reducible show wpAny _ _ (exec (PySem.Stmt.While _ _ _ _) _) _ _ _)); (fail_if_success (with_reducible show wpAny _ _ (pyIter _) _ _ _)); (fail_if_success (with_reducible show wpAny _ _ (exec (PySem.Stmt.For _ _ _ _ _) _) _ _ _)); (fail_if_success (with_reducible show wpAny _ _ (eval (PySem.Expr.ListComp _ _ _ _) _) _ _ _)); first | walk1 | (dsimp only; walk1)))
    k_dflt (refine For_invV s.heap (by rfl) (by rfl) ?_)
    iterate 6 walk1
    with_reducible rename Fr _ _ _ _ => kF
    with_reducible rename News _ _ _ _ => kN
    k_dflt (refine' kmk_slice_ints (s := ⟨_, _, _, _, _⟩) kF kN ?zl ?zp ?zq hI ?zm rfl ?_ ?zs ?zt ?zz)
    case zl => exact News.isList kN List.mem_cons_self
    case zp => exact IsPart.none
    case zq => exact IsPart.none
    case zm => exact slice_all hI
    case zs => with_unfolding_all rfl
    case zt => kmk_pure
    case zz => rw [List.size_toArray, PySem.sizeLine_eq]; omega
    intro D ws h2 F2 N2 hD hI2 _ _
    have hDlr : lr < D := hD _ List.mem_cons_self
    have N2' : News s.heap L' h2 ((lr, listOf us.toArray n) :: (D, listOf ws.toArray 0) :: own) := fun p hp => N2 p (by
      rcases List.mem_cons.mp hp with rfl | hp
      · exact List.mem_cons_of_mem _ List.mem_cons_self
      · rcases List.mem_cons.mp hp with rfl | hp
        · exact List.mem_cons_self
        · exact List.mem_cons_of_mem _ (List.mem_cons_of_mem _ hp))
    k_dflt (refine kst_listL (σ := List Value × List Int × Nat) (fun c => (lr, listOf c.1.toArray c.2.2) :: (D, listOf ws.toArray 0) :: own) (fun _ => []) (fun c => IntsAre c.1 c.2.1) [Str.ofString "both", Str.ofString "spot"] (fun pre2 c => c.2.1 = pre2.foldl (hvI m) is) (us, is, n) rfl (fun c => List.mem_cons_of_mem _ List.mem_cons_self) hI2 F2 N2' hI (fun _ hp => nomatch hp) rfl ?_ ?_)
    · rintro ⟨us2, is2, n2⟩ pre2 post2 k2 t2 u2 h3 tk3 own3 hsp2 hmem2 hoff2 hI3 hp2 F3 N3
      dsimp only at hI3 hp2
      have hlen2 : is2.length ≤ 16 := by
        have h1 := hvI_lens m pre2 is
        rw [← hp2] at h1
        have h2 := congrArg List.length hsp2
        simp at h2
        omega
      have hus2 : us2.length = is2.length := hI3.length
      have hbs := bsF_bnd is2 (Builtin.bitAnd m k2)
      have hbs1 := hbs.1
      have hbs2 := hbs.2
      have hoffs : ∀ p ∈ ((D, listOf ws.toArray 0) :: own) ++ own3, p.1 ≠ lr := by
        intro p hq
        rcases List.mem_append.mp hq with hq | hq
        · rcases List.mem_cons.mp hq with rfl | hq
          · exact Nat.ne_of_gt hDlr
          · exact hoff.ne List.mem_cons_self p hq
        · exact hoff2.ne List.mem_cons_self p hq
      clear hi hI hI2
      (try dsimp only)
      (try k_unmd)
      (try k_fold)
      repeat' (first | (k_unfold; (try dsimp only)) | ((fail_if_success (with_reducible show InvEndN _ _ _ _ _ _ _)); (fail_if_success (with_reducible show KswEnd _ _ _ _ _ _ _ _ _ _ _ _)); (fail_if_success (with_reducible show LCg.CompEnd _ _ _ _ _ _ _ _ _ _ _ _ _ _)); (fail_if_success (with_reducible show LoopStepU _ _ _ _ _ _ _ _)); first | walk1 | (dsimp only; walk1)))
      · rename_i hc h9 tk9 vs9 n9 hk9 hg9 hi9 F9 N9
        refine kst_end (vs9, isF is2 (Builtin.bitAnd m k2), n9) F9 N9 (fun p hq => List.mem_append_left own3 hq) (fun p hq => List.mem_append_right ((lr, listOf vs9.toArray n9) :: (D, listOf ws.toArray 0) :: own) hq) rfl hi9 (fun _ hq => nomatch hq) ?_ ?_
        · (intro z h1 h2 h3; simp only [List.contains_cons, List.contains_nil, Bool.or_false, Bool.or_eq_false_iff, beq_eq_false_iff_ne, ne_eq] at h3; simp only [List.forall_mem_cons, List.not_mem_nil, false_implies, implies_true, and_true, ne_eq] at h2; simp [h1, h2, h3, kstB])
        · rw [List.foldl_append, ← hp2, List.foldl_cons, List.foldl_nil, hvI, if_pos (.inl hc)]
      · rename_i _ hc h9 tk9 vs9 n9 hk9 hg9 hi9 F9 N9
        refine kst_end (vs9, isF is2 (Builtin.bitAnd m k2), n9) F9 N9 (fun p hq => List.mem_append_left own3 hq) (fun p hq => List.mem_append_right ((lr, listOf vs9.toArray n9) :: (D, listOf ws.toArray 0) :: own) hq) rfl hi9 (fun _ hq => nomatch hq) ?_ ?_
        · (intro z h1 h2 h3; simp only [List.contains_cons, List.contains_nil, Bool.or_false, Bool.or_eq_false_iff, beq_eq_false_iff_ne, ne_eq] at h3; simp only [List.forall_mem_cons, List.not_mem_nil, false_implies, implies_true, and_true, ne_eq] at h2; simp [h1, h2, h3, kstB])
        · rw [List.foldl_append, ← hp2, List.foldl_cons, List.foldl_nil, hvI, if_pos (.inr hc)]
      · rename_i hc1 _ hc2
        with_reducible rename Fr _ _ _ _ => kF
        with_reducible rename News _ _ _ _ => kN
        refine kst_end (us2, is2, n2) kF kN (fun p hq => List.mem_append_left own3 hq) (fun p hq => List.mem_append_right ((lr, listOf us2.toArray n2) :: (D, listOf ws.toArray 0) :: own) hq) rfl hI3 (fun _ hq => nomatch hq) ?_ ?_
        · (intro z h1 h2 h3; simp only [List.contains_cons, List.contains_nil, Bool.or_false, Bool.or_eq_false_iff, beq_eq_false_iff_ne, ne_eq] at h3; simp only [List.forall_mem_cons, List.not_mem_nil, false_implies, implies_true, and_true, ne_eq] at h2; simp [h1, h2, h3, kstB])
        · rw [List.foldl_append, ← hp2, List.foldl_cons, List.foldl_nil, hvI, if_neg]
          intro hq
          rcases hq with hq | hq
          · exact hc1 hq
          · exact hq hc2
    · rintro ⟨us2, is2, n2⟩ u2 h3 tk3 hI3 hp2 F3 N3
      dsimp only at hI3 hp2
      repeat' (first | (k_unfold; (try dsimp only)) | ((fail_if_success (with_reducible show InvEndN _ _ _ _ _ _ _)); (fail_if_success (with_reducible show KswEnd _ _ _ _ _ _ _ _ _ _ _ _)); (fail_if_success (with_reducible show LCg.CompEnd _ _ _ _ _ _ _ _ _ _ _ _ _ _)); (fail_if_success (with_reducible show LoopStepU _ _ _ _ _ _ _ _)); first | walk1 | (dsimp only; walk1)))
      refine kst_end (us2, is2, n2) F3 N3 (fun p hq => by rw [List.mem_singleton.mp hq]; exact List.mem_cons_self) (fun p hq => List.mem_cons_of_mem _ (List.mem_cons_of_mem _ hq)) rfl hI3 (fun _ hq => nomatch hq) ?_ ?_
      · (intro z h1 h2 h3; simp only [List.contains_cons, List.contains_nil, Bool.or_false, Bool.or_eq_false_iff, beq_eq_false_iff_ne, ne_eq] at h3; simp only [List.forall_mem_cons, List.not_mem_nil, false_implies, implies_true, and_true, ne_eq] at h2; simp [h1, h2, h3, kstB])
      · rw [List.foldl_append, ← hp, List.foldl_cons, List.foldl_nil, hvG]
        exact hp2
  · rintro ⟨us, is, n⟩ u h' tk hI hp F N
    dsimp only at hI hp
    repeat' (first | (k_unfold; (try dsimp only)) | ((fail_if_success (with_reducible show InvEndN _ _ _ _ _ _ _)); (fail_if_success (with_reducible show KswEnd _ _ _ _ _ _ _ _ _ _ _ _)); (fail_if_success (with_reducible show LCg.CompEnd _ _ _ _ _ _ _ _ _ _ _ _ _ _)); (fail_if_success (with_reducible show LoopStepU _ _ _ _ _ _ _ _)); first | walk1 | (dsimp only; walk1)))
    with_reducible rename Fr _ _ _ _ => kF
    with_reducible rename News _ _ _ _ => kN
    have hm := kN _ List.mem_cons_self
    rw [hp] at hI
    exact h _ _ _ _ _ kF.keep hm.2.2 hm.1 hI
end RL
end
section
open PySem PySem.W PyProof.Rows PySem.Calls
namespace RL
theorem fmod4 (n : Int) : n.fmod 4 = 0 ∨ n.fmod 4 = 1 ∨ n.fmod 4 = 2 ∨ n.fmod 4 = 3 := by
  rw [Int.fmod_eq_emod_of_nonneg _ (by decide)]
  omega
theorem mul_len (n : Int) : (Txt.mul (Str.ofString " ") (n.fmod 4)).length ≤ 3 := by
  rcases fmod4 n with h | h | h | h <;> rw [h] <;> decide +kernel
def ldS (p : Str × Int) : Str × Int := (p.1 ++ (Txt.mul (Str.ofString " ") (p.2.fmod 4) ++ Str.ofString "\t"), p.2.fdiv 4)
def ldIt : Nat → Str × Int → Str × Int
  | 0, p => p
  | n + 1, p => ldS (ldIt n p)
def ldF (x k : Int) : Str := (ldIt k.toNat (Str.ofString "", x)).1 ++ Txt.mul (Str.ofString " ") ((ldIt k.toNat (Str.ofString "", x)).2.fmod 4)
theorem str_app (a b : Str) : (a ++ b).length = a.length + b.length := by
  show (a.cps ++ b.cps).size = _
  rw [Array.size_append]
  rfl
theorem tab_len : (Str.ofString "\t").length = 1 := by decide +kernel
theorem ldIt_len (n : Nat) (x : Int) : (ldIt n (Str.ofString "", x)).1.length ≤ 4 * n := by
  induction n with
  | zero => show (Str.ofString "").length ≤ 0; decide +kernel
  | succ n ih =>
    rw [ldIt, ldS]
    have := mul_len (ldIt n (Str.ofString "", x)).2
    simp only [str_app, tab_len]
    omega
theorem ldIt_nn (n : Nat) (x : Int) (hx : 0 ≤ x) : 0 ≤ (ldIt n (Str.ofString "", x)).2 := by
  induction n with
  | zero => exact hx
  | succ n ih =>
    rw [ldIt, ldS]
    exact Int.fdiv_nonneg ih (by decide)
theorem ldF_len (x k : Int) (h1 : k ≤ 3) : (ldF x k).length ≤ 15 := by
  unfold ldF
  have h2 := ldIt_len k.toNat x
  have h3 := mul_len (ldIt k.toNat (Str.ofString "", x)).2
  rw [str_app]
  omega
theorem c_lead {w : World} {s : Shared} {mean : ExcName → Option Value} {mg mb : Str → Option Value} {Q : Value → Shared → Prop} {E : Value → Shared → Prop} {x k : Int} {t t2 : Tok}
    (X : (hd.heap_39 w.params).In s.heap) (T : Top hd.view_39 (looseW hd.view_39 [Str.ofString "insort_left", Str.ofString "bisect_left", Str.ofString "Whitespace"]) mean mg mb s.heap)
    (hx : 0 ≤ x) (hk0 : 0 ≤ k) (hk1 : k ≤ 3)
    (h : ∀ h' tk' t', Kp s.heap h' → Q (.str (ldF x k) t') { s with heap := h', toks := tk' }) :
    wpAny (model Pg w) (Ar 470 270) (call (.ref 133) [.int x t, .int k t2]) Q E s := by
  k_with_none
  k_with "binaryOp Add str str" => (refine PyProof.Rows.add_str (fun _ _ => ?_) (by simp only [str_app, tab_len]; (have hm9 := mul_len); rw [PySem.sizeLine_eq]; first | omega | (exact Nat.le_trans (Nat.add_le_add (Nat.le_refl _) (mul_len _)) (by omega)) | (exact Nat.le_trans (Nat.add_le_add (mul_len _) (Nat.le_refl _)) (by omega))))
  k_with "inplaceOp Add str str" => (refine PyProof.Rows.iadd_str (fun _ _ => ?_) (by simp only [str_app, tab_len]; rw [PySem.sizeLine_eq]; (exact Nat.le_trans (Nat.add_le_add_left (Nat.add_le_add_right (mul_len _) _) _) (by omega))))
  refine' enter X T ?k6 ?k7 ?k8 ?k9 ?kB ?c2 ?c3 ?c4 ?c5 ?_
  case k6 => k_is
  case k7 => k_is
  case k8 => decide
  case k9 => exact BindsTo.of_eq rfl
  case kB => exact locs rfl
  case c2 => rfl
  case c3 => rfl
  case c4 => rfl
  case c5 => decide
  intro L' h₁ tk F' N'
  (try dsimp only)
  (try k_unmd)
  k_fold
  repeat (first | (k_unfold; (try dsimp only)) | ((fail_if_success (with_reducible show wpAny _ _ (exec (PySem.Stmt.While _ _ _ _) _) _ _ _)); (fail_if_success (with_reducible show wpAny _ _ (pyIter _) _ _ _)); (fail_if_success (with_reducible show wpAny _ _ (eval (PySem.Expr.ListComp _ _ _ _) _) _ _ _)); first | walk1 | (dsimp only; walk1)))
  k_dflt (refine kst_range (σ := (Str × Tok) × (Int × Tok)) (n := k.toNat) (fun _ => []) (fun c => [(Str.ofString "text", Value.str c.1.1 c.1.2), (Str.ofString "number", Value.int c.2.1 c.2.2)]) (fun _ => True) [] (fun pre c => (c.1.1, c.2.1) = ldIt pre.length (Str.ofString "", x)) ((Str.ofString "", tk), (x, t)) rfl (by assumption) (small_one (by decide) (by decide) (by omega) (by omega)) (by rw [rangeSize_nat]; simp) (by assumption) (by assumption) trivial (List.forall_mem_cons.mpr ⟨rfl, List.forall_mem_cons.mpr ⟨rfl, List.forall_mem_nil _⟩⟩) rfl ?_ ?_)
  · rintro ⟨⟨tx, tt⟩, ⟨nu, tn⟩⟩ pre j tj u h' tk own hj hlt hoff _ hp F N
    dsimp only at hp
    have hpl : pre.length ≤ 3 := by omega
    have hln : tx.length ≤ 12 := by
      have h1 := ldIt_len pre.length x
      rw [← hp] at h1
      have h2 : tx.length ≤ 4 * pre.length := h1
      omega
    have hnn : 0 ≤ nu := by
      have := ldIt_nn pre.length x hx
      rw [← hp] at this
      exact this
    (try dsimp only)
    (try k_unmd)
    (try k_fold)
    repeat' (first | (k_unfold; (try dsimp only)) | ((fail_if_success (with_reducible show InvEndN _ _ _ _ _ _ _)); (fail_if_success (with_reducible show KswEnd _ _ _ _ _ _ _ _ _ _ _ _)); (fail_if_success (with_reducible show LCg.CompEnd _ _ _ _ _ _ _ _ _ _ _ _ _ _)); (fail_if_success (with_reducible show LoopStepU _ _ _ _ _ _ _ _)); first | walk1 | (dsimp only; walk1)))
    with_reducible rename Fr _ _ _ _ => kF
    with_reducible rename News _ _ _ _ => kN
    refine kst_end ((tx ++ (Txt.mul (Str.ofString " ") (nu.fmod 4) ++ Str.ofString "\t"), _), (nu.fdiv 4, _)) kF kN (fun _ hq => nomatch hq) (fun p hq => hq) rfl trivial (List.forall_mem_cons.mpr ⟨rfl, List.forall_mem_cons.mpr ⟨rfl, List.forall_mem_nil _⟩⟩) ?_ ?_
    · (intro z h1 h2 h3; simp only [List.contains_cons, List.contains_nil, Bool.or_false, Bool.or_eq_false_iff, beq_eq_false_iff_ne, ne_eq] at h3; simp only [List.forall_mem_cons, List.not_mem_nil, false_implies, implies_true, and_true, ne_eq] at h2; simp [h1, h2, h3, kstB])
    · rw [List.length_append, List.length_singleton, ldIt, ← hp]
      rfl
  · rintro ⟨⟨tx, tt⟩, ⟨nu, tn⟩⟩ u h' tk _ hp F N
    dsimp only at hp
    rw [rangeKs_length] at hp
    have hln : tx.length ≤ 12 := by
      have h1 := ldIt_len k.toNat x
      rw [← hp] at h1
      have h2 : tx.length ≤ 4 * k.toNat := h1
      omega
    repeat' (first | (k_unfold; (try dsimp only)) | ((fail_if_success (with_reducible show InvEndN _ _ _ _ _ _ _)); (fail_if_success (with_reducible show KswEnd _ _ _ _ _ _ _ _ _ _ _ _)); (fail_if_success (with_reducible show LCg.CompEnd _ _ _ _ _ _ _ _ _ _ _ _ _ _)); (fail_if_success (with_reducible show LoopStepU _ _ _ _ _ _ _ _)); first | walk1 | (dsimp only; walk1)))
    with_reducible rename Fr _ _ _ _ => kF
    have hv : ldF x k = tx ++ Txt.mul (Str.ofString " ") (nu.fmod 4) := by
      unfold ldF
      rw [← hp]
    rw [hv] at h
    exact h _ _ _ kF.keep
end RL
end
section
open PySem PySem.W PyProof.Rows PySem.Calls
namespace RL
theorem rst_B9 {M : Model} {A : Around} {env : Env} {Q : Flow → Shared → Prop} {E : Value → Shared → Prop} {s : Shared} (h : Q .next s) : wpAny M A (execs [] env) Q E s := by
  w_top off
  k_with_none
  first
    | (walk1; fail)
    | exact wpAny_execs_nil h
theorem blank_eq (n : Nat) : (({ cps := #[n] } : Str) == Str.ofString " ") = decide ((n : Int) = 32) := by
  have e : Str.ofString " " = ⟨#[32]⟩ := by decide +kernel
  rw [e]
  by_cases h : n = 32
  · subst h; decide +kernel
  · rw [decide_eq_false (by omega)]
    apply beq_eq_false_iff_ne.mpr
    intro e
    apply h
    have := congrArg (fun s : Str => s.cps.toList) e
    simpa using this
def coG (z : Int) (a n : Int) : Int := if n = 32 then a + 1 else (a.fdiv z + 1) * z
def coF (xt : Str) (z : Int) : Int := (KStt.codes xt).foldl (coG z) 0
def coL (xt : Str) : List Int := [coF xt 1, coF xt 2, coF xt 3, coF xt 4]
theorem coG_bnd {z a n : Int} {b : Int} (hz1 : 1 ≤ z) (hz2 : z ≤ 4) (ha : 0 ≤ a) (hb : a ≤ b) : 0 ≤ coG z a n ∧ coG z a n ≤ b + 4 := by
  unfold coG
  split
  · omega
  · rw [Int.fdiv_eq_ediv_of_nonneg _ (by omega)]
    obtain rfl | rfl | rfl | rfl : z = 1 ∨ z = 2 ∨ z = 3 ∨ z = 4 := by omega
    all_goals omega
theorem coG_bnds {z : Int} (hz1 : 1 ≤ z) (hz2 : z ≤ 4) : ∀ (ks : List Int) (a b : Int), 0 ≤ a → a ≤ b → 0 ≤ ks.foldl (coG z) a ∧ ks.foldl (coG z) a ≤ b + 4 * ks.length
  | [], a, b, h0, h1 => by simp; omega
  | k :: r, a, b, h0, h1 => by
    have h2 := coG_bnd (n := k) hz1 hz2 h0 h1
    have h3 := coG_bnds hz1 hz2 r _ _ h2.1 h2.2
    simp only [List.foldl_cons, List.length_cons]
    omega
theorem c_columns {w : World} {s : Shared} {mean : ExcName → Option Value} {mg mb : Str → Option Value} {Q : Value → Shared → Prop} {E : Value → Shared → Prop} {xt : Str} {t : Tok}
    (X : (hd.heap_39 w.params).In s.heap) (T : Top hd.view_39 (looseW hd.view_39 [Str.ofString "insort_left", Str.ofString "bisect_left", Str.ofString "Whitespace"]) mean mg mb s.heap)
    (hxl : xt.length ≤ 40)
    (h : ∀ h' tk' ld us n, Kp s.heap h' → s.heap.get? ld = none → h'.get? ld = some (listOf us.toArray n) → IntsAre us (coL xt) → Q (.ref ld) { s with heap := h', toks := tk' }) :
    wpAny (model Pg w) (Ar 470 270) (call (.ref 140) [.str xt t]) Q E s := by
  refine' enter X T ?k6 ?k7 ?k8 ?k9 ?kB ?c2 ?c3 ?c4 ?c5 ?_
  case k6 => k_is
  case k7 => k_is
  case k8 => decide
  case k9 => exact BindsTo.of_eq rfl
  case kB => exact locs rfl
  case c2 => rfl
  case c3 => rfl
  case c4 => rfl
  case c5 => decide
  intro L' h₁ tk F' N'
  (try dsimp only)
  (try k_unmd)
  k_fold
  repeat (first | (k_unfold; (try dsimp only)) | ((fail_if_success (with_reducible show wpAny _ _ (exec (PySem.Stmt.While _ _ _ _) _) _ _ _)); (fail_if_success (with_reducible show wpAny _ _ (pyIter _) _ _ _)); (fail_if_success (with_reducible show wpAny _ _ (eval (PySem.Expr.ListComp _ _ _ _) _) _ _ _)); first | walk1 | (dsimp only; walk1)))
  rename_i ld h8 l1 h7 kF kN h6 tk6 t6 u6 v6 hR kF2 kN2 hk2
  k_dflt (refine kst_range (σ := List Value × List Int × Nat) (n := 4) (fun c => [(ld, listOf c.1.toArray c.2.2)]) (fun _ => []) (fun c => IntsAre c.1 c.2.1) [Str.ofString "column", Str.ofString "sign"] (fun pre c => c.2.1 = pre.map (coF xt)) ([], [], 0) rfl hR (by decide) (by rfl) kF2 kN2 .nil (fun _ hp => nomatch hp) rfl ?_ ?_)
  · rintro ⟨us, is, n⟩ pre z tz u h' tk own hz hlt hoff hI hp F N
    dsimp only at hI hp
    have hz1 : 1 ≤ z := by omega
    have hz2 : z ≤ 4 := by omega
    have hlen : is.length = pre.length := by rw [hp]; simp
    have hus : us.length = is.length := hI.length
    (try dsimp only)
    (try k_unmd)
    (try k_fold)
    repeat (first | (k_unfold; (try dsimp only)) | ((fail_if_success (with_reducible show wpAny _ _ (exec (PySem.Stmt.While _ _ _ _) _) _ _ _)); (fail_if_success (with_reducible show wpAny _ _ (pyIter _) _ _ _)); (fail_if_success (with_reducible show wpAny _ _ (exec (PySem.Stmt.For _ _ _ _ _) _) _ _ _)); (fail_if_success (with_reducible show wpAny _ _ (eval (PySem.Expr.ListComp _ _ _ _) _) _ _ _)); first | walk1 | (dsimp only; walk1)))
    k_dflt (refine For_invV s.heap (by rfl) (by rfl) ?_)
    repeat (first | (k_unfold; (try dsimp only)) | ((fail_if_success (with_reducible show wpAny _ _ (exec (PySem.Stmt.While _ _ _ _) _) _ _ _)); (fail_if_success (with_reducible show wpAny _ _ (pyIter _) _ _ _)); (fail_if_success (with_reducible show wpAny _ _ (eval (PySem.Expr.ListComp _ _ _ _) _) _ _ _)); first | walk1 | (dsimp only; walk1)))
    with_reducible rename Fr _ _ _ _ => kF3
    with_reducible rename News _ _ _ _ => kN3
    k_dflt (refine KStt.kst_text (σ := Int × Tok) (fun _ => (ld, listOf us.toArray n) :: own) (fun c => [(Str.ofString "column", Value.int c.1 c.2)]) (fun _ => True) [] (fun pre2 c => c.1 = pre2.foldl (coG z) 0) (0, _) rfl kF3 kN3 trivial (List.forall_mem_cons.mpr ⟨rfl, List.forall_mem_nil _⟩) rfl ?_ ?_)
    · rintro ⟨cv, ct⟩ pre2 post2 k2 t2 u2 h2 tk2 own2 hsp2 hoff2 _ hp2 F2 N2
      dsimp only at hp2
      have hpl : pre2.length ≤ 40 := by
        have h1 := congrArg List.length hsp2
        rw [KStt.codes_length] at h1
        simp at h1
        omega
      have hcb := coG_bnds hz1 hz2 pre2 0 0 (by decide) (by decide)
      rw [← hp2] at hcb
      have hcb1 := hcb.1
      have hcb2 : cv ≤ 160 := by omega
      (try dsimp only)
      (try k_unmd)
      (try k_fold)
      repeat' (first | (k_unfold; (try dsimp only)) | ((fail_if_success (with_reducible show InvEndN _ _ _ _ _ _ _)); (fail_if_success (with_reducible show KswEnd _ _ _ _ _ _ _ _ _ _ _ _)); (fail_if_success (with_reducible show LCg.CompEnd _ _ _ _ _ _ _ _ _ _ _ _ _ _)); (fail_if_success (with_reducible show LoopStepU _ _ _ _ _ _ _ _)); first | walk1 | (dsimp only; walk1)))
      · rename_i hc _ kF4 kN4
        rw [blank_eq] at hc
        refine kst_end (cv + 1, _) kF4 kN4 (fun p hq => List.mem_append_left own2 hq) (fun p hq => List.mem_append_right ((ld, listOf us.toArray n) :: own) hq) rfl trivial (List.forall_mem_cons.mpr ⟨rfl, List.forall_mem_nil _⟩) ?_ ?_
        · (intro z h1 h2 h3; simp only [List.contains_cons, List.contains_nil, Bool.or_false, Bool.or_eq_false_iff, beq_eq_false_iff_ne, ne_eq] at h3; simp only [List.forall_mem_cons, List.not_mem_nil, false_implies, implies_true, and_true, ne_eq] at h2; simp [h1, h2, h3, kstB])
        · rw [List.foldl_append, ← hp2, List.foldl_cons, List.foldl_nil, coG, if_pos (of_decide_eq_true hc)]
      · rename_i hc _ kF4 kN4
        rw [blank_eq] at hc
        refine kst_end ((cv.fdiv z + 1) * z, _) kF4 kN4 (fun p hq => List.mem_append_left own2 hq) (fun p hq => List.mem_append_right ((ld, listOf us.toArray n) :: own) hq) rfl trivial (List.forall_mem_cons.mpr ⟨rfl, List.forall_mem_nil _⟩) ?_ ?_
        · (intro z h1 h2 h3; simp only [List.contains_cons, List.contains_nil, Bool.or_false, Bool.or_eq_false_iff, beq_eq_false_iff_ne, ne_eq] at h3; simp only [List.forall_mem_cons, List.not_mem_nil, false_implies, implies_true, and_true, ne_eq] at h2; simp [h1, h2, h3, kstB])
        · rw [List.foldl_append, ← hp2, List.foldl_cons, List.foldl_nil, coG, if_neg (of_decide_eq_false hc)]
    · rintro ⟨cv, ct⟩ u2 h2 tk2 _ hp2 F2 N2
      dsimp only at hp2
      repeat' (first | (k_unfold; (try dsimp only)) | ((fail_if_success (with_reducible show InvEndN _ _ _ _ _ _ _)); (fail_if_success (with_reducible show KswEnd _ _ _ _ _ _ _ _ _ _ _ _)); (fail_if_success (with_reducible show LCg.CompEnd _ _ _ _ _ _ _ _ _ _ _ _ _ _)); (fail_if_success (with_reducible show LoopStepU _ _ _ _ _ _ _ _)); first | walk1 | (dsimp only; walk1)))
      rename_i _ kF4 kN4
      refine kst_end (us ++ [Value.int cv ct], is ++ [cv], n + 1) kF4 (news' := (ld, listOf (us ++ [Value.int cv ct]).toArray (n + 1)) :: own) (by simpa using kN4) (fun p hq => by rw [List.mem_singleton.mp hq]; exact List.mem_cons_self) (fun p hq => List.mem_cons_of_mem _ hq) rfl (IntsAre.append hI (.cons _ _ .nil)) (fun _ hq => nomatch hq) ?_ ?_
      · (intro z h1 h2 h3; simp only [List.contains_cons, List.contains_nil, Bool.or_false, Bool.or_eq_false_iff, beq_eq_false_iff_ne, ne_eq] at h3; simp only [List.forall_mem_cons, List.not_mem_nil, false_implies, implies_true, and_true, ne_eq] at h2; simp [h1, h2, h3, kstB])
      · rw [List.map_append, ← hp, List.map_singleton]
        show is ++ [cv] = is ++ [coF xt z]
        rw [hp2]
        rfl
  · rintro ⟨us, is, n⟩ u h' tk hI hp F N
    dsimp only at hI hp
    repeat' (first | (k_unfold; (try dsimp only)) | ((fail_if_success (with_reducible show InvEndN _ _ _ _ _ _ _)); (fail_if_success (with_reducible show KswEnd _ _ _ _ _ _ _ _ _ _ _ _)); (fail_if_success (with_reducible show LCg.CompEnd _ _ _ _ _ _ _ _ _ _ _ _ _ _)); (fail_if_success (with_reducible show LoopStepU _ _ _ _ _ _ _ _)); first | walk1 | (dsimp only; walk1)))
    with_reducible rename Fr _ _ _ _ => kF
    with_reducible rename News _ _ _ _ => kN
    have hm := kN _ List.mem_cons_self
    rw [hp] at hI
    exact h _ _ _ _ _ kF.keep hm.2.2 hm.1 hI
end RL
end
section
open PySem PySem.W PyProof.Rows PySem.Calls
namespace RL
section
variable {prog : Program} {w : World} {A : Around} {E : Value → Shared → Prop} {s : Shared} {env : Env} {h₀ : Heap} {x : Str} {body : List Stmt} {Q : Flow → Shared → Prop}
def TFEnd (h₀ : Heap) (L : Addr) (I : Addr) (oI : Obj) (J : (Str → Option Value) → List (Addr × Obj) → Prop) (s₁ s₂ : Shared) : Prop :=
  ∃ h' tk m' news', s₂ = { s₁ with heap := h', toks := tk } ∧ Fr h₀ L h' m' ∧ News h₀ L h' (news' ++ [(I, oI)]) ∧ (∀ p ∈ news', p.1 ≠ I) ∧ J m' news'
def TFPost (h₀ : Heap) (L : Addr) (I : Addr) (oI : Obj) (J : (Str → Option Value) → List (Addr × Obj) → Prop) (s₁ : Shared) (Q : Flow → Shared → Prop) (f : Flow) (s₂ : Shared) : Prop :=
  match f with
  | .ret v => Q (.ret v) s₂
  | .brk => Q .next s₂
  | _ => TFEnd h₀ L I oI J s₁ s₂
theorem one_core {o : Obj} {St : Nat → Heap → Prop} {n : Nat} {P : Nat → Value → Prop} {ks : List Int} {V : Int → Tok → Value} {m₀ : Str → Option Value} {news : List (Addr × Obj)} (J : List Int → (Str → Option Value) → List (Addr × Obj) → Prop)
    (W : Walks prog w A s.heap.objs.size [s.heap.objs.size] [s.heap.objs.size] n P St) (hn : ks.length = n) (hP : ∀ i v, i < n → P i v → ∃ k t, ks[i]? = some k ∧ v = V k t) (hIo : ∀ i h, St i h → ∃ o, h.get? s.heap.objs.size = some o) (hst : St 0 (s.heap.push o))
    (F : Fr h₀ env.locals s.heap m₀) (N : News h₀ env.locals s.heap news) (hj : J [] m₀ news)
    (turn : ∀ (i : Nat) (k : Int) t m₁ news₁ h tk I oI, ks[i]? = some k → J (ks.take i) m₁ news₁ → (∀ p ∈ news₁, p.1 ≠ I) →
      Fr h₀ env.locals h (fun y => if y = x then some (V k t) else m₁ y) → News h₀ env.locals h (news₁ ++ [(I, oI)]) →
      wpAny (model prog w) A (execs body env) (TFPost h₀ env.locals I oI (J (ks.take i ++ [k])) { s with heap := h, toks := tk } Q) E { s with heap := h, toks := tk })
    (done : ∀ m₁ news₁ h tk, J ks m₁ news₁ → Fr h₀ env.locals h m₁ → News h₀ env.locals h news₁ → Q .next { s with heap := h, toks := tk }) :
    LoopAtV prog w A h₀ env x body Q E (.ref s.heap.objs.size) { s with heap := s.heap.push o } := by
  refine ⟨_, _, _, _, _, _, m₀, news, (fun i m nx => J (ks.take i) m nx), rfl, W, ?_, ?_, ?_, hst, F.push _, (fun p hp => ⟨Heap.get?_push_of_some _ (N p hp).1, (N p hp).2⟩), (by dsimp only; rw [List.take_zero]; exact hj), ?_, ?_⟩
  · intro hm
    exact absurd F.ns.lt ((List.mem_singleton.mp hm) ▸ Nat.lt_irrefl _)
  · intro b' hb
    rw [List.mem_singleton.mp hb]
    exact next_is_new F
  · intro p hp hI
    exact absurd (Heap.lt_size (N p hp).1) ((List.mem_singleton.mp hI) ▸ Nat.lt_irrefl _)
  · rintro i v m₁ news₁ s₁ own ⟨h, tk, rfl⟩ hi hPv hJ hoff hown hget hall hst₁ F₁ N₁
    obtain ⟨k, t, hk, rfl⟩ := hP i v hi hPv
    have hs : ks.take (i + 1) = ks.take i ++ [k] := by rw [List.take_add_one, hk]; rfl
    obtain ⟨oI, hI⟩ := hIo _ _ hst₁
    have hIm : (s.heap.objs.size, oI) ∈ own := hall _ (List.mem_singleton.mpr rfl) (next_is_new F) oI hI
    have hone : ∀ p ∈ own, p = (s.heap.objs.size, oI) := fun p hp => by
      have h1 : p.1 = s.heap.objs.size := List.mem_singleton.mp (hown p hp)
      have h2 : h.get? p.1 = some p.2 := hget p hp
      have h3 : h.get? s.heap.objs.size = some oI := hI
      rw [h1, h3] at h2
      exact Prod.ext h1 (Option.some.inj h2).symm
    have hoff' : ∀ p ∈ news₁, p.1 ≠ s.heap.objs.size := fun p hp he => hoff p hp (List.mem_singleton.mpr he)
    refine wpAny_mono (turn i k t m₁ news₁ h tk s.heap.objs.size oI hk hJ hoff' F₁ (fun p hp => N₁ p ?_)) (fun f s₂ q => ?_) fun _ _ e => e
    · rcases List.mem_append.mp hp with hp | hp
      · exact List.mem_append_right _ hp
      · rw [List.mem_singleton.mp hp]; exact List.mem_append_left _ hIm
    · have fin : TFEnd h₀ env.locals s.heap.objs.size oI (J (ks.take i ++ [k])) { s with heap := h, toks := tk } s₂ → LoopStepU h₀ env.locals [s.heap.objs.size] own ((fun i m nx => J (ks.take i) m nx) (i + 1)) { s with heap := h, toks := tk } .next s₂ := by
        rintro ⟨h', tk', m', news', rfl, F', N', hoff2, hJ2⟩
        refine LoopStepU.intro F' (fun p hp => N' p ?_) (fun p hp hm => hoff2 p hp (List.mem_singleton.mp hm)) (by dsimp only; rw [hs]; exact hJ2)
        rcases List.mem_append.mp hp with hp | hp
        · rw [hone p hp]; exact List.mem_append_right _ (List.mem_singleton.mpr rfl)
        · exact List.mem_append_left _ hp
      cases f with
      | ret v => exact .ret q
      | brk => exact .brk q
      | next => exact .next (fin q)
      | cont => exact .cont (fin q)
  · rintro h' tk m' news' F' N' _ hJ
    rw [← hn, List.take_length] at hJ
    exact done m' news' h' tk hJ F' N'
theorem txt_free {xt : Str} {tx : Tok} {m₀ : Str → Option Value} {news : List (Addr × Obj)} (J : List Int → (Str → Option Value) → List (Addr × Obj) → Prop)
    (hh : A.handled = none) (F : Fr h₀ env.locals s.heap m₀) (N : News h₀ env.locals s.heap news) (hj : J [] m₀ news)
    (turn : ∀ (pre post : List Int) (n : Nat) t m₁ news₁ h tk I oI, KStt.codes xt = pre ++ (n : Int) :: post → J pre m₁ news₁ → (∀ p ∈ news₁, p.1 ≠ I) →
      Fr h₀ env.locals h (fun y => if y = x then some (.str ⟨#[n]⟩ t) else m₁ y) → News h₀ env.locals h (news₁ ++ [(I, oI)]) →
      wpAny (model prog w) A (execs body env) (TFPost h₀ env.locals I oI (J (pre ++ [(n : Int)])) { s with heap := h, toks := tk } Q) E { s with heap := h, toks := tk })
    (done : ∀ m₁ news₁ h tk, J (KStt.codes xt) m₁ news₁ → Fr h₀ env.locals h m₁ → News h₀ env.locals h news₁ → Q .next { s with heap := h, toks := tk }) :
    wpAny (model prog w) A (pyIter (.str xt tx)) (fun it s₂ => LoopAtV prog w A h₀ env x body Q E it s₂) E s := by
  have turn' : ∀ (i : Nat) (k : Int) t m₁ news₁ h tk I oI, (KStt.codes xt)[i]? = some k → J ((KStt.codes xt).take i) m₁ news₁ → (∀ p ∈ news₁, p.1 ≠ I) →
      Fr h₀ env.locals h (fun y => if y = x then some (.str ⟨#[k.toNat]⟩ t) else m₁ y) → News h₀ env.locals h (news₁ ++ [(I, oI)]) →
      wpAny (model prog w) A (execs body env) (TFPost h₀ env.locals I oI (J ((KStt.codes xt).take i ++ [k])) { s with heap := h, toks := tk } Q) E { s with heap := h, toks := tk } := by
    intro i k t m₁ news₁ h tk I oI hk hJ hoff F' N'
    obtain ⟨c, _, rfl⟩ := List.mem_map.mp (List.mem_of_getElem? hk)
    have e : KStt.codes xt = (KStt.codes xt).take i ++ (c : Int) :: (KStt.codes xt).drop (i + 1) := by
      have ht := List.take_append_drop (i + 1) (KStt.codes xt)
      rw [List.take_add_one, hk, List.append_assoc] at ht
      exact ht.symm
    exact turn _ _ c t m₁ news₁ h tk I oI e hJ hoff F' N'
  have hP : ∀ i v, i < xt.cps.size → SignAt xt i v → ∃ k t, (KStt.codes xt)[i]? = some k ∧ v = .str ⟨#[k.toNat]⟩ t := by
    rintro i v _ ⟨n, u, hn, rfl⟩
    exact ⟨_, u, KStt.code_at hn, rfl⟩
  cases ha : xt.cps.all (· < 128)
  · exact wpAny_pyIter_wide ha (one_core J (Walks.strWide hh _ xt tx) (KStt.codes_length xt) hP (fun i h st => by obtain ⟨o, e, _⟩ := st; exact ⟨o, e⟩) ⟨_, Heap.get?_push_size _ rfl, rfl, rfl⟩ F N hj turn' done)
  · exact wpAny_pyIter_ascii ha (one_core J (Walks.strAscii hh _ xt tx) (KStt.codes_length xt) hP (fun i h st => by obtain ⟨o, e, _⟩ := st; exact ⟨o, e⟩) ⟨_, Heap.get?_push_size _ rfl, rfl, rfl⟩ F N hj turn' done)
end
end RL
end
section
open PySem PySem.W PyProof.Rows PySem.Calls
namespace RL
abbrev wsD (w : World) (xt : Str) (t : Tok) (n : Int) (tn : Tok) (nt : Int) (tt : Tok) (tp : Addr) (cl : Nat) (k1 k2 k3 k4 k5 : Tok) : Obj := dictOf [⟨PyData.keyHash w.params (Str.ofString "raw"), .str (Str.ofString "raw") k1, .str xt t⟩, ⟨PyData.keyHash w.params (Str.ofString "n"), .str (Str.ofString "n") k2, .int n tn⟩, ⟨PyData.keyHash w.params (Str.ofString "nt"), .str (Str.ofString "nt") k3, .int nt tt⟩, ⟨PyData.keyHash w.params (Str.ofString "norm"), .str (Str.ofString "norm") k4, .ref tp⟩, ⟨PyData.keyHash w.params (Str.ofString "is_simple"), .str (Str.ofString "is_simple") k5, .bool (decide ((cl : Int) ≤ 1))⟩] 5
abbrev wsT (tc : Addr) (b : Int) (tb : Tok) : Obj := { cls := .type "tuple", data := .seq #[.ref tc, .int b tb] }
abbrev wsC (us : List Value) : Obj := { cls := .type "tuple", data := .seq us.toArray }
section
variable {w : World} {A : Around} {s : Shared} {mean : ExcName → Option Value} {mg mb : Str → Option Value} {d u : Nat} {R : Result → Shared → Prop}
 {name qual : Str} {params : Arguments} {body : List Stmt} {scope : Scope} {dV kV doc pm cdv ct oc : Value} {an od : Option Addr} {osl : Array (Option Value)} {f : Addr} {vs : List Value} {binds : List (Str × Value)} {h₀ : Heap} {led : List (Addr × Obj)}
theorem enterHc (hA : A.handled = none) (hdp : A.depth + 1 ≤ d) (hun : A.units + 3 ≤ u) (hk₀ : Kp h₀ s.heap) (X : (hd.heap_39 w.params).In h₀) (T : Top hd.view_39 (looseW hd.view_39 [Str.ofString "insort_left", Str.ofString "bisect_left", Str.ofString "Whitespace"]) mean mg mb h₀)
    (hled : ∀ p ∈ led, s.heap.get? p.1 = some p.2 ∧ h₀.get? p.1 = none)
    (ho : (hd.heap_39 w.params).lookup f = some ⟨oc, od, .func (fnOf name qual params body scope dV kV doc pm an cdv ct), osl⟩) (hcd : codeIn (hd.heap_39 w.params) cdv qual = true) (hroom : d ≤ recursionLimit)
    (hbind : BindsTo s (fnOf name qual params body scope dV kV doc pm an cdv ct) ⟨vs, []⟩ binds) (hloc : ∀ y ∈ binds, scope.names.lookup y.1 = some .local)
    (hco : scope.isCoroutine = false) (hgen : scope.isGenerator = false) (hk : scope.kind = .function) (hcell : ∀ x ∈ scope.names, x.2 ≠ .cell)
    (h : ∀ g L' h₁ tk, (∀ b o, b ∉ led.map (·.1) → s.heap.get? b = some o → g.get? b = some o) → Kp h₀ g → (hd.heap_39 w.params).In g → Top hd.view_39 (looseW hd.view_39 [Str.ofString "insort_left", Str.ofString "bisect_left", Str.ofString "Whitespace"]) mean mg mb g →
      Fr g L' h₁ (fun y => binds.reverse.lookup y) → News g L' h₁ led → (∀ p ∈ led, p.1 < L') → s.heap.objs.size ≤ L' →
      wpAny (model Pg w) (Ar d u) (execs body (envOf qual scope L' f cdv))
        (fun fl s' => R (.ok (.ret (match fl with | .ret v => v | _ => .none))) s') (fun _ _ => False) { s with heap := h₁, toks := tk }) :
    codeAny (model Pg w) A (.call (.ref f) ⟨vs, []⟩) R s := by
  have X' := X.keeps hk₀
  have hg : ∀ b o, b ∉ led.map (·.1) → s.heap.get? b = some o → (hideAll s.heap (led.map (·.1))).get? b = some o := fun b o hb e => hideAll_get _ e hb
  have hg0 : Kp h₀ (hideAll s.heap (led.map (·.1))) := fun b o e => hg b o (fun hm => by
    obtain ⟨p, hp, rfl⟩ := List.mem_map.mp hm
    rw [(hled p hp).2] at e; cases e) (hk₀ b o e)
  refine codeAny_call_def (fd := fnX name qual params body scope [] dV kV doc pm an cdv ct) (body := body) (binds := binds) (by omega) (X' _ _ ho) rfl (T.nolimit.keeps hk₀) (codeRec_of X' hcd) rfl hbind hcell hloc (fun h₁ hns hk₁ => ?_) hco hgen hk
  refine lower hA hdp hun ?_
  exact wpAny_mono (h _ s.heap.objs.size h₁ _ hg hg0 (X.keeps hg0) (T.keeps hg0) ⟨hns, fun b o e => hk₁ b o (of_hideAll _ e), Nat.le_of_eq (hideAll_size _ _)⟩
    (fun p hp => ⟨hk₁ _ _ (hled p hp).1, Nat.ne_of_lt (Heap.lt_size (hled p hp).1), hideAll_none _ (List.mem_map_of_mem hp)⟩) (fun p hp => Heap.lt_size (hled p hp).1) (Nat.le_refl _)) (fun fl s' x => x) (fun _ _ x => x.elim)
end
abbrev WsC := Addr × List Value × Nat × List Int × (Int × Tok) × (Int × Tok) × (Int × Tok)
theorem fr_ps {h₀ : Heap} {L : Addr} {h : Heap} {x : Str} {v : Value} {m : Str → Option Value} {ps : List (Str × Value)} (h1 : ∀ p ∈ ps, m p.1 = some p.2) (F : Fr h₀ L h (fun y => if y = x then some v else m y)) : Fr h₀ L h (fun y => if y = x then some v else kstB m ps y) := by
  have e : (fun y => if y = x then some v else kstB m ps y) = fun y => if y = x then some v else m y := by
    funext y
    by_cases hy : y = x
    · rw [if_pos hy, if_pos hy]
    · rw [if_neg hy, if_neg hy]
      exact kstB_eq h1 fun _ => rfl
  rw [e]
  exact F
theorem fr_map {h₀ : Heap} {L : Addr} {h : Heap} {m : Str → Option Value} (F : Fr h₀ L h m) : ∃ m', m' = m ∧ Fr h₀ L h m' := ⟨m, rfl, F⟩
def wsG (a : List Int × Int × Int × Int) (c : Int) : List Int × Int × Int × Int :=
  if c = 32 then (a.1, a.2.1 + 1, a.2.2.1 + 1, a.2.2.2)
  else if a.2.1 ≥ a.1.length then ((a.1 ++ List.replicate (a.2.1 - a.1.length + 1).toNat 0).set a.2.1.toNat ((a.1 ++ List.replicate (a.2.1 - a.1.length + 1).toNat 0).getD a.2.1.toNat 0 + 1), 0, a.2.2.1 + 1, a.2.2.2 + 1)
  else (a.1.set a.2.1.toNat (a.1.getD a.2.1.toNat 0 + 1), 0, a.2.2.1 + 1, a.2.2.2 + 1)
theorem wsG_bnd {a : List Int × Int × Int × Int} {c : Int} {k : Int} (h : 0 ≤ a.2.1 ∧ a.2.1 ≤ k ∧ a.1.length ≤ k + 1) : 0 ≤ (wsG a c).2.1 ∧ (wsG a c).2.1 ≤ k + 1 ∧ (wsG a c).1.length ≤ k + 2 := by
  unfold wsG
  split
  · dsimp only; omega
  · split
    · dsimp only
      rw [List.length_set, List.length_append, List.length_replicate]
      omega
    · dsimp only
      rw [List.length_set]
      omega
theorem wsG_bnds : ∀ (ks : List Int) (a : List Int × Int × Int × Int) (k : Int), (0 ≤ a.2.1 ∧ a.2.1 ≤ k ∧ a.1.length ≤ k + 1) → 0 ≤ (ks.foldl wsG a).2.1 ∧ (ks.foldl wsG a).2.1 ≤ k + ks.length ∧ (ks.foldl wsG a).1.length ≤ k + ks.length + 1
  | [], a, k, h => by simp only [List.foldl_nil, List.length_nil]; omega
  | c :: r, a, k, h => by
    have h1 := wsG_bnd (c := c) h
    have h2 := wsG_bnds r (wsG a c) (k + 1) (by omega)
    simp only [List.foldl_cons, List.length_cons]
    omega
theorem tup_of {w : World} {A : Around} {E : Value → Shared → Prop} {s : Shared} {h₀ : Heap} {L l : Addr} {m : Str → Option Value} {vs : List Value} {news : List (Addr × Obj)} {Q : Value → Shared → Prop} (F : Fr h₀ L s.heap m) (N : News h₀ L s.heap news) (hl : s.heap.IsList l vs.toArray) (hz : vs.length ≤ 16384)
    (h : ∀ D h', Fr h₀ L h' m → News h₀ L h' ((D, wsC vs) :: news) → (∀ p ∈ news, p.1 < D) → Q (.ref D) { s with heap := h' }) : wpAny (model Pg w) A (call (.type "tuple") [.ref l]) Q E s :=
  kde_tupleOf F N hl (by simpa using hz) (by simp) h
theorem tab_eq (n : Nat) : (({ cps := #[n] } : Str) == Str.ofString "\t") = decide ((n : Int) = 9) := by
  have e : Str.ofString "\t" = ⟨#[9]⟩ := by decide +kernel
  rw [e]
  by_cases h : n = 9
  · subst h; decide +kernel
  · rw [decide_eq_false (by omega)]
    apply beq_eq_false_iff_ne.mpr
    intro e
    apply h
    have := congrArg (fun s : Str => s.cps.toList) e
    simpa using this
theorem ints_set {vs : List Value} {ns : List Int} (h : IntsAre vs ns) : ∀ (k : Nat) (a : Int) (t : Tok), IntsAre (vs.set k (.int a t)) (ns.set k a) := by
  induction h with
  | nil => intro k a t; simp; exact .nil
  | cons m t0 h' ih => intro k a t; cases k with
    | zero => exact .cons a t h'
    | succ j => exact .cons m t0 (ih j a t)
theorem fr_but2 {h₀ h h' : Heap} {L x y : Addr} {m : Str → Option Value} (F : Fr h₀ L h m) (hk : ∀ b o, b ≠ x → b ≠ y → h.get? b = some o → h'.get? b = some o) (hx : x ≠ L) (hy : y ≠ L) (h1 : h₀.get? x = none) (h2 : h₀.get? y = none) : Fr h₀ L h' m :=
  ⟨F.ns.at' fun o e => hk L o (Ne.symm hx) (Ne.symm hy) e, fun b o e => hk b o (fun q => by rw [q, h1] at e; cases e) (fun q => by rw [q, h2] at e; cases e) (F.keep b o e), F.above⟩
theorem c_make {w : World} {s : Shared} {mean : ExcName → Option Value} {mg mb : Str → Option Value} {Q : Value → Shared → Prop} {E : Value → Shared → Prop} {h₀ : Heap} {L : Addr} {m : Str → Option Value} {news : List (Addr × Obj)} {xt : Str} {t : Tok}
    (F : Fr h₀ L s.heap m) (N : News h₀ L s.heap news) (X : (hd.heap_39 w.params).In h₀) (T : Top hd.view_39 (looseW hd.view_39 [Str.ofString "insort_left", Str.ofString "bisect_left", Str.ofString "Whitespace"]) mean mg mb h₀)
    (hxt : ∀ c ∈ KStt.codes xt, c = 32 ∨ c = 9) (hxl : xt.length ≤ 40)
    (h : ∀ h' tk' x dx tp tc us cnt b n nt tb tn tt k1 k2 k3 k4 k5, Fr h₀ L h' m → News h₀ L h' ((x, instObj 122 dx) :: (dx, wsD w xt t n tn nt tt tp cnt.length k1 k2 k3 k4 k5) :: (tp, wsT tc b tb) :: (tc, wsC us) :: news) → (∀ p ∈ news, p.1 < dx) → @LT.lt Nat _ dx x → @LT.lt Nat _ x tc → @LT.lt Nat _ tc tp → IntsAre us cnt →
      (cnt, b, n, nt) = (KStt.codes xt).foldl wsG ([], 0, 0, 0) → Q (.ref x) { s with heap := h', toks := tk' }) :
    wpAny (model Pg w) (Ar 460 260) (call (.ref 122) [.str xt t]) Q E s := by
  refine' call_cls F X N ?k1 ?k2 ?k3 ?_
  case k1 => k_is
  case k2 => k_is
  case k3 => k_is
  intro x dx hx0 F1 N1 hlt1 hlt2
  refine' enterHc (led := [(x, instObj 122 dx), (dx, dictOf [] 0)]) (d := 480) (u := 300) ?a1 ?a2 ?a3 F1.keep X T ?a4 ?k6 ?k7 ?k8 ?k9 ?kB ?c2 ?c3 ?c4 ?c5 ?_
  case a1 => rfl
  case a2 => exact Nat.le_of_ble_eq_true rfl
  case a3 => exact Nat.le_of_ble_eq_true rfl
  case a4 => exact List.forall_mem_cons.mpr ⟨⟨(N1 _ List.mem_cons_self).1, (N1 _ List.mem_cons_self).2.2⟩, List.forall_mem_cons.mpr ⟨⟨(N1 _ (List.mem_cons_of_mem _ List.mem_cons_self)).1, (N1 _ (List.mem_cons_of_mem _ List.mem_cons_self)).2.2⟩, List.forall_mem_nil _⟩⟩
  case k6 => k_is
  case k7 => k_is
  case k8 => decide
  case k9 => exact BindsTo.of_eq rfl
  case kB => exact locs rfl
  case c2 => rfl
  case c3 => rfl
  case c4 => rfl
  case c5 => decide
  intro g L' h₁ tk hg hg0 X' T' F' N' hlt hsz
  replace hlt2 := ltN hlt2
  have l1 := ltN (hlt _ (List.mem_cons_of_mem _ List.mem_cons_self))
  have l2 := ltN (hlt _ List.mem_cons_self)
  dsimp only at l1 l2
  (try dsimp only)
  (try k_unmd)
  k_fold
  clear X T
  repeat (first | (k_unfold; (try dsimp only)) | ((fail_if_success (with_reducible show wpAny _ _ (exec (PySem.Stmt.While _ _ _ _) _) _ _ _)); (fail_if_success (with_reducible show wpAny _ _ (pyIter _) _ _ _)); (fail_if_success (with_reducible show wpAny _ _ (eval (PySem.Expr.ListComp _ _ _ _) _) _ _ _)); first | walk1 | (dsimp only; walk1)))
  with_reducible rename Fr _ _ _ _ => kF
  with_reducible rename News _ _ _ _ => kN
  rename_i D' _ _ _ _ _ _ lc _ _ _ _ _ _
  refine Classical.byContradiction fun hG => ?_
  obtain ⟨m1, hm1, F2⟩ := fr_map kF
  obtain ⟨tS, hS⟩ : ∃ tS, m1 (Str.ofString "S") = some (.str (Str.ofString " ") tS) := ⟨_, by rw [hm1]; rfl⟩
  obtain ⟨tT, hT⟩ : ∃ tT, m1 (Str.ofString "T") = some (.str (Str.ofString "\t") tT) := ⟨_, by rw [hm1]; rfl⟩
  have hse : m1 (Str.ofString "self") = some (.ref x) := by rw [hm1]; rfl
  obtain ⟨tb, hb⟩ : ∃ tb, m1 (Str.ofString "b") = some (.int 0 tb) := ⟨_, by rw [hm1]; rfl⟩
  obtain ⟨tn, hn⟩ : ∃ tn, m1 (Str.ofString "n") = some (.int 0 tn) := ⟨_, by rw [hm1]; rfl⟩
  obtain ⟨tt, ht⟩ : ∃ tt, m1 (Str.ofString "nt") = some (.int 0 tt) := ⟨_, by rw [hm1]; rfl⟩
  have hc : m1 (Str.ofString "count") = some (.ref lc) := by rw [hm1]; rfl
  obtain ⟨kt, N2⟩ : ∃ kt, News g L' _ [(lc, listOf ([] : List Value).toArray 0), (x, instObj 122 dx), (dx, dictOf [⟨PyData.keyHash w.params (Str.ofString "raw"), .str (Str.ofString "raw") kt, .str xt t⟩] 1)] :=
    ⟨_, fun p hp => kN p (by
      rcases List.mem_cons.mp hp with rfl | hp
      · exact .head _
      · exact .tail _ (.tail _ hp))⟩
  clear hm1 kF kN
  obtain ⟨oD, hoD⟩ : ∃ o, o = dictOf [⟨PyData.keyHash w.params (Str.ofString "raw"), .str (Str.ofString "raw") kt, .str xt t⟩] 1 := ⟨_, rfl⟩
  rw [← hoD] at N2
  refine hG ?_
  clear hG
  k_dflt (refine txt_free (fun pre mm nx => ∃ c : WsC, nx = [(c.1, listOf c.2.1.toArray c.2.2.1), (x, instObj 122 dx), (dx, oD)] ∧ IntsAre c.2.1 c.2.2.2.1 ∧ (@LT.lt Nat _ x c.1 ∧ @LT.lt Nat _ dx c.1) ∧
      (∀ p ∈ [(Str.ofString "count", Value.ref c.1), (Str.ofString "b", Value.int c.2.2.2.2.1.1 c.2.2.2.2.1.2), (Str.ofString "n", Value.int c.2.2.2.2.2.1.1 c.2.2.2.2.2.1.2), (Str.ofString "nt", Value.int c.2.2.2.2.2.2.1 c.2.2.2.2.2.2.2), (Str.ofString "S", Value.str (Str.ofString " ") tS), (Str.ofString "T", Value.str (Str.ofString "\t") tT), (Str.ofString "self", Value.ref x)], mm p.1 = some p.2) ∧
      (c.2.2.2.1, c.2.2.2.2.1.1, c.2.2.2.2.2.1.1, c.2.2.2.2.2.2.1) = pre.foldl wsG ([], 0, 0, 0)) rfl F2 N2 ⟨(lc, [], 0, [], (0, tb), (0, tn), (0, tt)), rfl, .nil, ⟨by omega, by omega⟩, ?_, rfl⟩ ?_ ?_)
  · intro p hp
    simp only [List.mem_cons, List.not_mem_nil, or_false] at hp
    rcases hp with rfl | rfl | rfl | rfl | rfl | rfl | rfl <;> assumption
  · intro pre post c tc m₁ news₁ h2 tk2 I oI hsp hJJ hoff F3 N3
    refine Classical.byContradiction fun hG => ?_
    obtain ⟨⟨lc, us, nn, cnt, ⟨b, tb⟩, ⟨n, tn⟩, ⟨nt, tt⟩⟩, rfl, hI, ⟨hlx, hld⟩, hps, hst⟩ := hJJ
    dsimp only at hI hlx hld hps hst hoff N3
    replace F3 := fr_ps hps F3
    dsimp only [kstB] at F3
    have hIx : @Ne Nat x I := (hoff _ (List.mem_cons_of_mem _ List.mem_cons_self))
    have hIc : @Ne Nat lc I := (hoff _ List.mem_cons_self)
    have hId : @Ne Nat dx I := (hoff _ (List.mem_cons_of_mem _ (List.mem_cons_of_mem _ List.mem_cons_self)))
    have hcc := hxt (c : Int) (by rw [hsp]; exact List.mem_append_right _ List.mem_cons_self)
    have hpl : pre.length ≤ 40 := by
      have h1 := congrArg List.length hsp
      rw [KStt.codes_length] at h1
      simp at h1
      omega
    have hbd := wsG_bnds pre ([], 0, 0, 0) 0 (by simp)
    rw [← hst] at hbd
    dsimp only at hbd
    obtain ⟨hb0, hb1, hb2⟩ := hbd
    have hus : us.length = cnt.length := hI.length
    have hcl : cnt.length ≤ 42 := by omega
    have hb3 : b ≤ 41 := by omega
    refine hG ?_
    clear hG
    (try dsimp only)
    (try k_unmd)
    (try k_fold)
    repeat' (first | (k_unfold; (try dsimp only)) | ((fail_if_success (with_reducible show InvEndN _ _ _ _ _ _ _)); (fail_if_success (with_reducible show KswEnd _ _ _ _ _ _ _ _ _ _ _ _)); (fail_if_success (with_reducible show LCg.CompEnd _ _ _ _ _ _ _ _ _ _ _ _ _ _)); (fail_if_success (with_reducible show LoopStepU _ _ _ _ _ _ _ _)); (fail_if_success (with_reducible show RL.TFEnd _ _ _ _ _ _ _)); (fail_if_success (with_reducible show RL.TFPost _ _ _ _ _ _ _ _ _)); first | walk1 | (dsimp only; walk1)))
    · rename_i hc _ _ kF kN
      rw [blank_eq] at hc
      have hc' : (c : Int) = 32 := of_decide_eq_true hc
      refine ⟨_, _, _, [(lc, listOf us.toArray nn), (x, instObj 122 dx), (dx, oD)], rfl, kF, kN, hoff, (lc, us, nn, cnt, (b + 1, _), (n + 1, _), (nt, tt)), rfl, hI, ⟨hlx, hld⟩, List.forall_mem_cons.mpr ⟨rfl, List.forall_mem_cons.mpr ⟨rfl, List.forall_mem_cons.mpr ⟨rfl, List.forall_mem_cons.mpr ⟨rfl, List.forall_mem_cons.mpr ⟨rfl, List.forall_mem_cons.mpr ⟨rfl, List.forall_mem_cons.mpr ⟨rfl, List.forall_mem_nil _⟩⟩⟩⟩⟩⟩⟩, ?_⟩
      rw [List.foldl_append, ← hst, List.foldl_cons, List.foldl_nil, wsG, if_pos hc']
    · rename_i D2 ws' _ hI' l7 _ _ _ _ _ _ _ kF kN
      rename ((_ : Str) == Str.ofString " ") = false => hc1
      rw [blank_eq] at hc1
      have hc' : ¬ (c : Int) = 32 := of_decide_eq_false hc1
      simp only [AllLt, List.cons_append, List.nil_append] at l7
      obtain ⟨_, _, l71, l72, l73, l74, _⟩ := l7
      obtain ⟨tq, N6⟩ : ∃ tq, News g L' _ ([(D2, listOf (ws'.set b.toNat (.int ((cnt ++ (List.replicate (b - cnt.length + 1).toNat [0]).flatten).getD b.toNat 0 + 1) tq)).toArray 0), (x, instObj 122 dx), (dx, oD)] ++ [(I, oI)]) := ⟨_, fun p hp => kN p (by
        rcases List.mem_cons.mp hp with rfl | hp
        · exact List.mem_cons_self
        · exact List.mem_cons_of_mem _ (List.mem_cons_of_mem _ (List.mem_cons_of_mem _ (List.mem_cons_of_mem _ hp))))⟩
      generalize hv : (cnt ++ (List.replicate (b - cnt.length + 1).toNat [0]).flatten).getD b.toNat 0 + 1 = v at N6
      refine ⟨_, _, _, [(D2, listOf (ws'.set b.toNat (.int v tq)).toArray 0), (x, instObj 122 dx), (dx, oD)], rfl, kF, N6, ?_, (D2, ws'.set b.toNat (.int v tq), 0, (cnt ++ (List.replicate (b - cnt.length + 1).toNat [0]).flatten).set b.toNat v, (0, _), (n + 1, _), (nt + 1, _)), rfl, ints_set hI' _ _ _, ⟨l72, l73⟩, List.forall_mem_cons.mpr ⟨rfl, List.forall_mem_cons.mpr ⟨rfl, List.forall_mem_cons.mpr ⟨rfl, List.forall_mem_cons.mpr ⟨rfl, List.forall_mem_cons.mpr ⟨rfl, List.forall_mem_cons.mpr ⟨rfl, List.forall_mem_cons.mpr ⟨rfl, List.forall_mem_nil _⟩⟩⟩⟩⟩⟩⟩, ?_⟩
      · refine List.forall_mem_cons.mpr ⟨Nat.ne_of_gt l74, fun p hp => hoff p (List.mem_cons_of_mem _ hp)⟩
      · rw [List.foldl_append, ← hst, List.foldl_cons, List.foldl_nil, wsG, if_neg hc', if_pos (by show b ≥ (cnt.length : Int); omega), ← hv, List.flatten_replicate_singleton]
    · rename_i hc1 hc2 _ _ hc3 _ _ hi' _ _ _ kF kN
      rw [blank_eq] at hc1
      have hc' : ¬ (c : Int) = 32 := of_decide_eq_false hc1
      generalize hv : cnt.getD b.toNat 0 + 1 = v at hi' kN
      refine ⟨_, _, _, [(lc, listOf (us.set b.toNat (.int v _)).toArray nn), (x, instObj 122 dx), (dx, oD)], rfl, kF, kN, ?_, (lc, us.set b.toNat (.int v _), nn, cnt.set b.toNat v, (0, _), (n + 1, _), (nt + 1, _)), rfl, hi', ⟨hlx, hld⟩, List.forall_mem_cons.mpr ⟨rfl, List.forall_mem_cons.mpr ⟨rfl, List.forall_mem_cons.mpr ⟨rfl, List.forall_mem_cons.mpr ⟨rfl, List.forall_mem_cons.mpr ⟨rfl, List.forall_mem_cons.mpr ⟨rfl, List.forall_mem_cons.mpr ⟨rfl, List.forall_mem_nil _⟩⟩⟩⟩⟩⟩⟩, ?_⟩
      · exact List.forall_mem_cons.mpr ⟨hIc, fun p hp => hoff p (List.mem_cons_of_mem _ hp)⟩
      · rw [List.foldl_append, ← hst, List.foldl_cons, List.foldl_nil, wsG, if_neg hc', if_neg (by show ¬ b ≥ (cnt.length : Int); omega), ← hv]
    · rename_i hc1 hc2
      rw [blank_eq] at hc1
      rw [tab_eq] at hc2
      exact absurd hcc (by rintro (hq | hq); exact of_decide_eq_false hc1 hq; exact of_decide_eq_false hc2 hq)
  · intro m₁ news₁ h2 tk2 hJJ F3 N3
    refine Classical.byContradiction fun hG => ?_
    obtain ⟨⟨lc, us, nn, cnt, ⟨b, tb⟩, ⟨n, tn⟩, ⟨nt, tt⟩⟩, rfl, hI, ⟨hlx, hld⟩, hps, hst⟩ := hJJ
    subst hoD
    dsimp only at hI hlx hld hps hst N3
    replace F3 := fr_ps0 hps F3
    dsimp only [kstB] at F3
    have hbd := wsG_bnds (KStt.codes xt) ([], 0, 0, 0) 0 (by simp)
    rw [← hst, KStt.codes_length] at hbd
    dsimp only at hbd
    obtain ⟨hb0, hb1, hb2⟩ := hbd
    have hus : us.length = cnt.length := hI.length
    have hcl : us.length ≤ 42 := by omega
    refine hG ?_
    clear hG
    iterate 30 (first | (k_unfold; (try dsimp only)) | ((fail_if_success (with_reducible show wpAny _ _ (call (Value.type _) [Value.ref _]) _ _ _)); first | walk1 | (dsimp only; walk1)) | skip)
    with_reducible rename Fr _ _ _ _ => kF
    with_reducible rename News _ _ _ _ => kN
    refine tup_of kF kN (News.isList kN (by k_mem)) (by omega) ?_
    intro tc hc2 F5 N5 l5
    k_lt l5
    repeat' (first | (k_unfold; (try dsimp only)) | ((fail_if_success (with_reducible show InvEndN _ _ _ _ _ _ _)); (fail_if_success (with_reducible show KswEnd _ _ _ _ _ _ _ _ _ _ _ _)); (fail_if_success (with_reducible show LCg.CompEnd _ _ _ _ _ _ _ _ _ _ _ _ _ _)); (fail_if_success (with_reducible show LoopStepU _ _ _ _ _ _ _ _)); (fail_if_success (with_reducible show RL.TFEnd _ _ _ _ _ _ _)); (fail_if_success (with_reducible show RL.TFPost _ _ _ _ _ _ _ _ _)); first | walk1 | (dsimp only; walk1)))
    rename_i tp _ l6 _ _ _ kF kN
    obtain ⟨l51, l52, l53⟩ := l5
    obtain ⟨l61, l62, l63, l64⟩ := l6
    have hkeep : ∀ b' o', b' ≠ x → b' ≠ dx → hx0.get? b' = some o' → g.get? b' = some o' := fun b' o' h1 h2 e => hg b' o' (by simp [h1, h2]) e
    have q0 := kN _ List.mem_cons_self
    have q1 := kN _ (List.mem_cons_of_mem _ List.mem_cons_self)
    have q3 := kN _ (List.mem_cons_of_mem _ (List.mem_cons_of_mem _ (List.mem_cons_of_mem _ List.mem_cons_self)))
    have q4 := kN _ (List.mem_cons_of_mem _ (List.mem_cons_of_mem _ (List.mem_cons_of_mem _ (List.mem_cons_of_mem _ List.mem_cons_self))))
    have p0 := N1 _ List.mem_cons_self
    have p1 := N1 _ (List.mem_cons_of_mem _ List.mem_cons_self)
    have hnone : ∀ a, g.get? a = none → h₀.get? a = none := fun a e => by
      cases q : h₀.get? a with
      | none => rfl
      | some o' => have := hg0 a o' q; rw [e] at this; cases this
    have hnL : ∀ a, g.get? a = none → a ≠ L := fun a e q => by
      obtain ⟨oL, _, _, hL, _⟩ := F1.ns
      have := hkeep L oL (Ne.symm p0.2.1) (Ne.symm p1.2.1) hL
      rw [← q, e] at this
      cases this
    obtain ⟨k1, k2, k3, k4, k5, hq4⟩ : ∃ k1 k2 k3 k4 k5, Heap.get? _ dx = some (wsD w xt t n tn nt tt tp cnt.length k1 k2 k3 k4 k5) := ⟨_, _, _, _, _, q4.1⟩
    refine ⟨rfl, h _ _ x dx tp tc us cnt b n nt tb tn tt k1 k2 k3 k4 k5 (fr_but2 F1 (fun b' o' h1 h2 e => kF.keep b' o' (hkeep b' o' h1 h2 e)) p0.2.1 p1.2.1 p0.2.2 p1.2.2) ?_ hlt1 hlt2 l52 l61 hI hst⟩
    intro p hp
    rcases List.mem_cons.mp hp with rfl | hp
    · exact ⟨q3.1, p0.2⟩
    rcases List.mem_cons.mp hp with rfl | hp
    · exact ⟨hq4, p1.2⟩
    rcases List.mem_cons.mp hp with rfl | hp
    · exact ⟨q0.1, hnL _ q0.2.2, hnone _ q0.2.2⟩
    rcases List.mem_cons.mp hp with rfl | hp
    · exact ⟨q1.1, hnL _ q1.2.2, hnone _ q1.2.2⟩
    · have z := N1 p (List.mem_cons_of_mem _ (List.mem_cons_of_mem _ hp))
      have l9 := hlt1 p hp
      exact ⟨kF.keep _ _ (hkeep _ _ (Nat.ne_of_lt (Nat.lt_trans l9 hlt2)) (Nat.ne_of_lt l9) z.1), z.2⟩
end RL
end
section
open PySem PySem.W PyProof.Rows PySem.Calls
namespace RL
theorem kp_back {h h' g : Heap} {led : List (Addr × Obj)} (hg : ∀ b o, b ∉ led.map (·.1) → h.get? b = some o → g.get? b = some o) (hk : Kp g h') (hn : ∀ p ∈ led, h'.get? p.1 = some p.2) (hl : ∀ p ∈ led, h.get? p.1 = some p.2) : Kp h h' := by
  intro b o e
  by_cases hb : b ∈ led.map (·.1)
  · obtain ⟨p, hp, rfl⟩ := List.mem_map.mp hb
    have h1 := hl p hp
    rw [e] at h1
    rw [hn p hp]
    exact h1.symm
  · exact hk b o (hg b o hb e)
theorem tup_len {w : World} {A : Around} {E : Value → Shared → Prop} {s : Shared} {tc : Addr} {us : List Value} {cnt : List Int} {Q : Value → Shared → Prop} (ht : IsTup s.heap tc us.toArray) (hi : IntsAre us cnt) (hcl : cnt.length ≤ 42)
    (h : ∀ t' tk', Q (.int cnt.length t') { s with toks := tk' }) : wpAny (model Pg w) A (call (.builtin "len") [.ref tc]) Q E s := by
  have hl := hi.length
  refine PyProof.Rows.len_tuple ht (by simp; omega) ?_
  rw [show us.toArray.size = cnt.length by simp; omega]
  exact h _ _
theorem tup_item {w : World} {A : Around} {E : Value → Shared → Prop} {s : Shared} {value slice : PySem.Expr} {tc : Addr} {us : List Value} {cnt : List Int} {k : Int} {u : Tok} {Q : Value → Shared → Prop} (ht : IsTup s.heap tc us.toArray) (hi : IntsAre us cnt) (hcl : cnt.length ≤ 42)
    (h0 : 0 ≤ k) (h1 : k < cnt.length) (h : ∀ t', Q (.int (cnt.getD k.toNat 0) t') s)
    (hs : subscripted slice false (.ref tc) (.int k u) = operate [.ref tc, .int k u] (getItem (.ref tc) (.int k u))) :
    wpAny (model Pg w) A (subscriptTail value slice (.ref tc) (.int k u)) Q E s := by
  have hl := hi.length
  have hg : cnt[k.toNat]? = some (cnt.getD k.toNat 0) := by
    rw [List.getD_eq_getElem?_getD, List.getElem?_eq_getElem (by omega)]
    rfl
  obtain ⟨t', hv⟩ := hi.get _ _ hg
  refine item_tupleT (j := k.toNat) ht (by omega) (by omega) ?_ hv (h t') hs
  simp only [seqIndex?]
  rw [if_neg (show ¬ k < 0 by omega), if_pos (by simp; omega)]
theorem c_longest {w : World} {s : Shared} {mean : ExcName → Option Value} {mg mb : Str → Option Value} {Q : Value → Shared → Prop} {E : Value → Shared → Prop} {h₀ : Heap} {x dx tp tc : Addr} {us : List Value} {cnt : List Int} {b n nt : Int} {xt : Str} {t tb tn tt k1 k2 k3 k4 k5 : Tok}
    (hk₀ : Kp h₀ s.heap) (X : (hd.heap_39 w.params).In h₀) (T : Top hd.view_39 (looseW hd.view_39 [Str.ofString "insort_left", Str.ofString "bisect_left", Str.ofString "Whitespace"]) mean mg mb h₀)
    (hled : ∀ p ∈ [(x, instObj 122 dx), (dx, wsD w xt t n tn nt tt tp cnt.length k1 k2 k3 k4 k5), (tp, wsT tc b tb), (tc, wsC us)], s.heap.get? p.1 = some p.2 ∧ h₀.get? p.1 = none)
    (hi : IntsAre us cnt) (hcl : cnt.length ≤ 42) (hb0 : 0 ≤ b) (hb1 : b ≤ 41)
    (h : ∀ h' tk' t', Kp s.heap h' → Q (.int (if b > (cnt.length : Int) - 1 then b else (cnt.length : Int) - 1) t') { s with heap := h', toks := tk' }) :
    wpAny (model Pg w) (Ar 500 300) (call (.ref 84) [.ref x]) Q E s := by
  k_with_none
  k_with "call builtin:len" => (k_here; (with_reducible show wpAny _ _ (call (Value.builtin "len") [Value.ref _]) _ _ _); refine tup_len (News.isTup (by k_asm) (by k_mem)) (by assumption) (by assumption) ?_; intro _ _)
  k_with "subscriptTail Name Name ref int" => (k_here; (with_reducible show wpAny _ _ (subscriptTail _ _ (Value.ref _) (Value.int _ _)) _ _ _); refine tup_item (News.isTup (by k_asm) (by k_mem)) (by assumption) (by assumption) (by omega) (by omega) ?_ (by with_unfolding_all rfl); intro _)
  refine' enterH hk₀ X T (led := [(x, instObj 122 dx), (dx, wsD w xt t n tn nt tt tp cnt.length k1 k2 k3 k4 k5), (tp, wsT tc b tb), (tc, wsC us)]) hled ?k6 ?k7 ?k8 ?k9 ?kB ?c2 ?c3 ?c4 ?c5 ?_
  case k6 => k_is
  case k7 => k_is
  case k8 => decide
  case k9 => exact BindsTo.of_eq rfl
  case kB => exact locs rfl
  case c2 => rfl
  case c3 => rfl
  case c4 => rfl
  case c5 => decide
  intro g L' h₁ tk hg hg0 X' T' F' N' hlt
  clear X T
  (try dsimp only)
  (try k_unmd)
  k_fold
  have hus : us.length = cnt.length := hi.length
  repeat' (first | (k_unfold; (try dsimp only)) | ((fail_if_success (with_reducible show InvEndN _ _ _ _ _ _ _)); (fail_if_success (with_reducible show KswEnd _ _ _ _ _ _ _ _ _ _ _ _)); (fail_if_success (with_reducible show LCg.CompEnd _ _ _ _ _ _ _ _ _ _ _ _ _ _)); (fail_if_success (with_reducible show LoopStepU _ _ _ _ _ _ _ _)); (fail_if_success (with_reducible show RL.TFEnd _ _ _ _ _ _ _)); (fail_if_success (with_reducible show RL.TFPost _ _ _ _ _ _ _ _ _)); first | walk1 | (dsimp only; walk1)))
  with_reducible rename Fr _ _ _ _ => kF
  with_reducible rename News _ _ _ _ => kN
  have hK := kp_back hg kF.keep (fun p hp => (kN p hp).1) (fun p hp => (hled p hp).1)
  exact h _ _ _ hK
theorem bits41 {a : Int} (h0 : 0 ≤ a) (h1 : a ≤ 41) : Builtin.Int.intBits a ≤ 64 := by
  obtain ⟨i, rfl⟩ : ∃ i : Fin 42, a = ((i.val : Nat) : Int) := ⟨⟨a.toNat, by omega⟩, by simp; omega⟩
  revert i
  decide +kernel
def ilG (cnt : List Int) (ts : Int) (a i : Int) : Int := a + i.fdiv ts * cnt.getD i.toNat 0
def lvF (cnt : List Int) (b nt ts : Int) : Int := b + ts * ((rangeKs ts (cnt.length - ts).toNat).foldl (ilG cnt ts) 0 + nt)
theorem c_indent {w : World} {s : Shared} {mean : ExcName → Option Value} {mg mb : Str → Option Value} {Q : Value → Shared → Prop} {E : Value → Shared → Prop} {h₀ : Heap} {x dx tp tc : Addr} {us : List Value} {cnt : List Int} {b n nt : Int} {xt : Str} {t tb tn tt k1 k2 k3 k4 k5 : Tok} {ts : Int} {tts : Tok}
    (hk₀ : Kp h₀ s.heap) (X : (hd.heap_39 w.params).In h₀) (T : Top hd.view_39 (looseW hd.view_39 [Str.ofString "insort_left", Str.ofString "bisect_left", Str.ofString "Whitespace"]) mean mg mb h₀)
    (hled : ∀ p ∈ [(x, instObj 122 dx), (dx, wsD w xt t n tn nt tt tp cnt.length k1 k2 k3 k4 k5), (tp, wsT tc b tb), (tc, wsC us)], s.heap.get? p.1 = some p.2 ∧ h₀.get? p.1 = none)
    (hi : IntsAre us cnt) (hcl : cnt.length ≤ 42) (hb0 : 0 ≤ b) (hb1 : b ≤ 41) (hnt0 : 0 ≤ nt) (hnt1 : nt ≤ 41) (hcv : ∀ k : Nat, 0 ≤ cnt.getD k 0 ∧ cnt.getD k 0 ≤ 41) (hts0 : 1 ≤ ts) (hts1 : ts ≤ 5)
    (h : ∀ h' tk' t', Kp s.heap h' → Q (.int (lvF cnt b nt ts) t') { s with heap := h', toks := tk' }) :
    wpAny (model Pg w) (Ar 500 300) (call (.ref 91) [.ref x, .int ts tts]) Q E s := by
  k_with_none
  k_with "call builtin:len" => (k_here; (with_reducible show wpAny _ _ (call (Value.builtin "len") [Value.ref _]) _ _ _); refine tup_len (News.isTup (by k_asm) (by k_mem)) (by assumption) (by assumption) ?_; intro _ _)
  k_with "subscriptTail Name Name ref int" => (k_here; (with_reducible show wpAny _ _ (subscriptTail _ _ (Value.ref _) (Value.int _ _)) _ _ _); refine tup_item (News.isTup (by k_asm) (by k_mem)) (by assumption) (by assumption) (by omega) (by omega) ?_ (by with_unfolding_all rfl); intro _)
  k_with "binaryOp Mult int int" => (first | (refine PyProof.Rows.mul_int ?_ (IntMulOk.of_right (bits41 (by omega) (by omega)))) | (refine PyProof.Rows.mul_int ?_ (IntMulOk.of_left (bits41 (by omega) (by omega)))))
  refine' enterH hk₀ X T (led := [(x, instObj 122 dx), (dx, wsD w xt t n tn nt tt tp cnt.length k1 k2 k3 k4 k5), (tp, wsT tc b tb), (tc, wsC us)]) hled ?k6 ?k7 ?k8 ?k9 ?kB ?c2 ?c3 ?c4 ?c5 ?_
  case k6 => k_is
  case k7 => k_is
  case k8 => decide
  case k9 => exact BindsTo.of_eq rfl
  case kB => exact locs rfl
  case c2 => rfl
  case c3 => rfl
  case c4 => rfl
  case c5 => decide
  intro g L' h₁ tk hg hg0 X' T' F' N' hlt
  clear X T
  (try dsimp only)
  (try k_unmd)
  k_fold
  have hus : us.length = cnt.length := hi.length
  repeat (first | (k_unfold; (try dsimp only)) | ((fail_if_success (with_reducible show wpAny _ _ (exec (PySem.Stmt.While _ _ _ _) _) _ _ _)); (fail_if_success (with_reducible show wpAny _ _ (pyIter _) _ _ _)); (fail_if_success (with_reducible show wpAny _ _ (eval (PySem.Expr.ListComp _ _ _ _) _) _ _ _)); first | walk1 | (dsimp only; walk1)))
  with_reducible rename Fr _ _ _ _ => kF
  with_reducible rename News _ _ _ _ => kN
  obtain ⟨m1, hm1, F2⟩ := fr_map kF
  obtain ⟨ti, hil⟩ : ∃ ti, m1 (Str.ofString "il") = some (.int 0 ti) := ⟨_, by rw [hm1]; rfl⟩
  subst hm1
  k_dflt (refine kst_range (σ := Int × Tok) (n := (cnt.length - ts).toNat) (fun _ => [(x, instObj 122 dx), (dx, wsD w xt t n tn nt tt tp cnt.length k1 k2 k3 k4 k5), (tp, wsT tc b tb), (tc, wsC us)]) (fun c => [(Str.ofString "il", Value.int c.1 c.2)]) (fun _ => True) [] (fun pre c => c.1 = pre.foldl (ilG cnt ts) 0) (0, ti) rfl (by assumption) (small_one (by omega) (by omega) (by omega) (by omega)) (rangeSize_nat _ _) F2 kN trivial (List.forall_mem_cons.mpr ⟨hil, List.forall_mem_nil _⟩) rfl ?_ ?_)
  · rintro ⟨cv, ct⟩ pre j tj u h' tk own hj hlt2 hoff _ hp F N
    dsimp only at hp
    have hj1 := (hcv j.toNat).1
    have hj2 := (hcv j.toNat).2
    (try dsimp only)
    (try k_unmd)
    (try k_fold)
    repeat' (first | (k_unfold; (try dsimp only)) | ((fail_if_success (with_reducible show InvEndN _ _ _ _ _ _ _)); (fail_if_success (with_reducible show KswEnd _ _ _ _ _ _ _ _ _ _ _ _)); (fail_if_success (with_reducible show LCg.CompEnd _ _ _ _ _ _ _ _ _ _ _ _ _ _)); (fail_if_success (with_reducible show LoopStepU _ _ _ _ _ _ _ _)); (fail_if_success (with_reducible show RL.TFEnd _ _ _ _ _ _ _)); (fail_if_success (with_reducible show RL.TFPost _ _ _ _ _ _ _ _ _)); first | walk1 | (dsimp only; walk1)))
    with_reducible rename Fr _ _ _ _ => kF
    with_reducible rename News _ _ _ _ => kN
    refine kst_end (cv + j.fdiv ts * cnt.getD j.toNat 0, _) kF kN (fun p hq => List.mem_append_left own hq) (fun p hq => List.mem_append_right [(x, instObj 122 dx), (dx, wsD w xt t n tn nt tt tp cnt.length k1 k2 k3 k4 k5), (tp, wsT tc b tb), (tc, wsC us)] hq) rfl trivial (List.forall_mem_cons.mpr ⟨rfl, List.forall_mem_nil _⟩) ?_ ?_
    · (intro z h1 h2 h3; simp only [List.contains_cons, List.contains_nil, Bool.or_false, Bool.or_eq_false_iff, beq_eq_false_iff_ne, ne_eq] at h3; simp only [List.forall_mem_cons, List.not_mem_nil, false_implies, implies_true, and_true, ne_eq] at h2; simp [h1, h2, h3, kstB])
    · rw [List.foldl_append, ← hp, List.foldl_cons, List.foldl_nil, ilG]
  · rintro ⟨cv, ct⟩ u h' tk _ hp F N
    dsimp only at hp
    repeat' (first | (k_unfold; (try dsimp only)) | ((fail_if_success (with_reducible show InvEndN _ _ _ _ _ _ _)); (fail_if_success (with_reducible show KswEnd _ _ _ _ _ _ _ _ _ _ _ _)); (fail_if_success (with_reducible show LCg.CompEnd _ _ _ _ _ _ _ _ _ _ _ _ _ _)); (fail_if_success (with_reducible show LoopStepU _ _ _ _ _ _ _ _)); (fail_if_success (with_reducible show RL.TFEnd _ _ _ _ _ _ _)); (fail_if_success (with_reducible show RL.TFPost _ _ _ _ _ _ _ _ _)); first | walk1 | (dsimp only; walk1)))
    with_reducible rename Fr _ _ _ _ => kF
    with_reducible rename News _ _ _ _ => kN
    have hK := kp_back hg kF.keep (fun p hp => (kN p hp).1) (fun p hp => (hled p hp).1)
    have hv : lvF cnt b nt ts = b + ts * (cv + nt) := by rw [lvF, ← hp]
    rw [hv] at h
    exact h _ _ _ hK
end RL
end
section
open PySem PySem.W PyProof.Rows PySem.Calls
namespace RL
theorem max3 {w : World} {E : Value → Shared → Prop} {s : Shared} {h₀ : Heap} {L : Addr} {m : Str → Option Value} {news : List (Addr × Obj)} {a : Int} {d u0 : Nat} {t u : Tok} {Q : Value → Shared → Prop} (F : Fr h₀ L s.heap m) (N : News h₀ L s.heap news) (ha : a ≤ 3)
    (h : ∀ h' tk t', Fr h₀ L h' m → News h₀ L h' news → Q (.int 3 t') { s with heap := h', toks := tk }) : wpAny (model Pg w) (Ar d u0) (call (.builtin "max") [.int a t, .int 3 u]) Q E s := by
  refine max_two_N rfl F N fun h' tk F' N' => ?_
  have e : (if (3 : Int) > a then 3 else a) = 3 := by split <;> omega
  rw [e]
  exact h _ _ _ F' N'
theorem add31 {w : World} {A : Around} {E : Value → Shared → Prop} {s : Shared} {t u : Tok} {Q : Value → Shared → Prop} (h : ∀ t' tk', Q (.int 4 t') { s with toks := tk' }) : wpAny (model Pg w) A (binaryOp .Add (.int 3 t) (.int 1 u)) Q E s := add_int (h _ _)
theorem add41 {w : World} {A : Around} {E : Value → Shared → Prop} {s : Shared} {t u : Tok} {Q : Value → Shared → Prop} (h : ∀ t' tk', Q (.int 5 t') { s with toks := tk' }) : wpAny (model Pg w) A (binaryOp .Add (.int 4 t) (.int 1 u)) Q E s := add_int (h _ _)
theorem ts_mem {pre : List Int} {ts : Int} (h : ts = 2 + (pre.length : Int)) (h2 : pre.length < 3) : ts ∈ rangeKs 2 3 := by
  have e : rangeKs 2 3 = [2, 3, 4] := by decide
  rw [e, h]
  obtain h3 | h3 | h3 : pre.length = 0 ∨ pre.length = 1 ∨ pre.length = 2 := by omega
  all_goals (rw [h3]; decide)
def lsB (cnt : List Int) (b nt : Int) (cnt2 : List Int) (b2 nt2 ts : Int) : Bool := !(decide (lvF cnt b nt ts ≥ lvF cnt2 b2 nt2 ts))
def lsF (cnt : List Int) (b n nt : Int) (cnt2 : List Int) (b2 n2 nt2 : Int) : Bool := !(decide (n ≥ n2)) && (rangeKs 2 3).all (lsB cnt b nt cnt2 b2 nt2)
theorem c_less {w : World} {s : Shared} {mean : ExcName → Option Value} {mg mb : Str → Option Value} {Q : Value → Shared → Prop} {E : Value → Shared → Prop} {h₀ : Heap} {x dx tp tc : Addr} {us : List Value} {cnt : List Int} {b n nt : Int} {xt : Str} {t tb tn tt k1 k2 k3 k4 k5 : Tok} {x2 dx2 tp2 tc2 : Addr} {us2 : List Value} {cnt2 : List Int} {b2 n2 nt2 : Int} {xt2 : Str} {t2 tb2 tn2 tt2 k12 k22 k32 k42 k52 : Tok} {v1 : Int}
    (hk₀ : Kp h₀ s.heap) (X : (hd.heap_39 w.params).In h₀) (T : Top hd.view_39 (looseW hd.view_39 [Str.ofString "insort_left", Str.ofString "bisect_left", Str.ofString "Whitespace"]) mean mg mb h₀)
    (hled : ∀ p ∈ [(x, instObj 122 dx), (dx, wsD w xt t n tn nt tt tp cnt.length k1 k2 k3 k4 k5), (tp, wsT tc b tb), (tc, wsC us), (x2, instObj 122 dx2), (dx2, wsD w xt2 t2 n2 tn2 nt2 tt2 tp2 cnt2.length k12 k22 k32 k42 k52), (tp2, wsT tc2 b2 tb2), (tc2, wsC us2)], s.heap.get? p.1 = some p.2 ∧ h₀.get? p.1 = none)
    (hi : IntsAre us cnt) (hcl : cnt.length ≤ 42) (hb0 : 0 ≤ b) (hb1 : b ≤ 41) (hnt0 : 0 ≤ nt) (hnt1 : nt ≤ 41) (hcv : ∀ k : Nat, 0 ≤ cnt.getD k 0 ∧ cnt.getD k 0 ≤ 41) (hi2 : IntsAre us2 cnt2) (hcl2 : cnt2.length ≤ 42) (hb02 : 0 ≤ b2) (hb12 : b2 ≤ 41) (hnt02 : 0 ≤ nt2) (hnt12 : nt2 ≤ 41) (hcv2 : ∀ k : Nat, 0 ≤ cnt2.getD k 0 ∧ cnt2.getD k 0 ≤ 41) (hl1 : (if b > (cnt.length : Int) - 1 then b else (cnt.length : Int) - 1) = v1) (hv1 : v1 ≤ 3) (hl2 : (if b2 > (cnt2.length : Int) - 1 then b2 else (cnt2.length : Int) - 1) = 3) (hs2 : 1 < cnt2.length)
    (h : ∀ h' tk', Kp s.heap h' → Q (.bool (lsF cnt b n nt cnt2 b2 n2 nt2)) { s with heap := h', toks := tk' }) :
    wpAny (model Pg w) (Ar 480 280) (call (.ref 112) [.ref x, .ref x2]) Q E s := by
  k_with_none
  k_with "call builtin:max" => (k_here; (with_reducible show wpAny _ _ (call (Value.builtin "max") [Value.int _ _, Value.int 3 _]) _ _ _); refine max3 (by k_asm) (by k_asm) (by assumption) ?_; intro _ _ _ _ _)
  k_with "binaryOp Add int int" => ((with_reducible show wpAny _ _ (binaryOp Operator.Add (Value.int 3 _) (Value.int 1 _)) _ _ _); refine add31 ?_; intro _ _)
  k_with "binaryOp Add int int" => ((with_reducible show wpAny _ _ (binaryOp Operator.Add (Value.int 4 _) (Value.int 1 _)) _ _ _); refine add41 ?_; intro _ _)
  refine' enterH hk₀ X T (led := [(x, instObj 122 dx), (dx, wsD w xt t n tn nt tt tp cnt.length k1 k2 k3 k4 k5), (tp, wsT tc b tb), (tc, wsC us), (x2, instObj 122 dx2), (dx2, wsD w xt2 t2 n2 tn2 nt2 tt2 tp2 cnt2.length k12 k22 k32 k42 k52), (tp2, wsT tc2 b2 tb2), (tc2, wsC us2)]) hled ?k6 ?k7 ?k8 ?k9 ?kB ?c2 ?c3 ?c4 ?c5 ?_
  case k6 => k_is
  case k7 => k_is
  case k8 => decide
  case k9 => exact BindsTo.of_eq rfl
  case kB => exact locs rfl
  case c2 => rfl
  case c3 => rfl
  case c4 => rfl
  case c5 => decide
  intro g L' h₁ tk hg hg0 X' T' F' N' hlt
  clear X T
  (try dsimp only)
  (try k_unmd)
  k_fold
  have hs2' : decide ((cnt2.length : Int) ≤ 1) = false := decide_eq_false (by omega)
  repeat' (first | (k_unfold; (try dsimp only)) | ((fail_if_success (with_reducible show InvEndN _ _ _ _ _ _ _)); (fail_if_success (with_reducible show KswEnd _ _ _ _ _ _ _ _ _ _ _ _)); (fail_if_success (with_reducible show LCg.CompEnd _ _ _ _ _ _ _ _ _ _ _ _ _ _)); (fail_if_success (with_reducible show LoopStepU _ _ _ _ _ _ _ _)); (fail_if_success (with_reducible show RL.TFEnd _ _ _ _ _ _ _)); (fail_if_success (with_reducible show RL.TFPost _ _ _ _ _ _ _ _ _)); (fail_if_success (with_reducible show wpAny _ _ (call (Value.ref 91) _) _ _ _)); (fail_if_success (with_reducible show wpAny _ _ (call (Value.ref 84) _) _ _ _)); (fail_if_success (with_reducible show wpAny _ _ (pyIter _) _ _ _)); first | walk1 | (dsimp only; walk1)))
  · rename_i hc
    with_reducible rename Fr _ _ _ _ => kF
    with_reducible rename News _ _ _ _ => kN
    have hK := kp_back hg kF.keep (fun p hp => (kN p hp).1) (fun p hp => (hled p hp).1)
    have hv : lsF cnt b n nt cnt2 b2 n2 nt2 = false := by
      unfold lsF
      rw [decide_eq_true (show n ≥ n2 by omega)]
      rfl
    rw [hv] at h
    exact h _ _ hK
  all_goals (
    (try dsimp only [List.append_nil])
    with_reducible rename Fr _ _ _ _ => kF
    with_reducible rename News _ _ _ _ => kN
    refine lower rfl (by decide) (by decide) (c_longest (x := x) (dx := dx) (tp := tp) (tc := tc) (us := us) (cnt := cnt) (b := b) (n := n) (nt := nt) (xt := xt) (t := t) (tb := tb) (tn := tn) (tt := tt) (k1 := k1) (k2 := k2) (k3 := k3) (k4 := k4) (k5 := k5) (Fr.keep kF) X' T' (fun p hp => ⟨(kN p (List.mem_append_left ([(x2, instObj 122 dx2), (dx2, wsD w xt2 t2 n2 tn2 nt2 tt2 tp2 cnt2.length k12 k22 k32 k42 k52), (tp2, wsT tc2 b2 tb2), (tc2, wsC us2)] ++ ([] : List (Addr × Obj))) hp)).1, (kN p (List.mem_append_left ([(x2, instObj 122 dx2), (dx2, wsD w xt2 t2 n2 tn2 nt2 tt2 tp2 cnt2.length k12 k22 k32 k42 k52), (tp2, wsT tc2 b2 tb2), (tc2, wsC us2)] ++ ([] : List (Addr × Obj))) hp)).2.2⟩) hi hcl hb0 hb1 ?_)
    intro h9 tk9 t9 hk9
    have F9 := Fr.keeps kF hk9
    have N9 := News.grown kN hk9
    clear kF kN
    rw [hl1]
    (try dsimp only)
    repeat' (first | (k_unfold; (try dsimp only)) | ((fail_if_success (with_reducible show InvEndN _ _ _ _ _ _ _)); (fail_if_success (with_reducible show KswEnd _ _ _ _ _ _ _ _ _ _ _ _)); (fail_if_success (with_reducible show LCg.CompEnd _ _ _ _ _ _ _ _ _ _ _ _ _ _)); (fail_if_success (with_reducible show LoopStepU _ _ _ _ _ _ _ _)); (fail_if_success (with_reducible show RL.TFEnd _ _ _ _ _ _ _)); (fail_if_success (with_reducible show RL.TFPost _ _ _ _ _ _ _ _ _)); (fail_if_success (with_reducible show wpAny _ _ (call (Value.ref 91) _) _ _ _)); (fail_if_success (with_reducible show wpAny _ _ (call (Value.ref 84) _) _ _ _)); (fail_if_success (with_reducible show wpAny _ _ (pyIter _) _ _ _)); first | walk1 | (dsimp only; walk1)))
    (try dsimp only [List.append_nil])
    with_reducible rename Fr _ _ _ _ => kF
    with_reducible rename News _ _ _ _ => kN
    refine lower rfl (by decide) (by decide) (c_longest (x := x2) (dx := dx2) (tp := tp2) (tc := tc2) (us := us2) (cnt := cnt2) (b := b2) (n := n2) (nt := nt2) (xt := xt2) (t := t2) (tb := tb2) (tn := tn2) (tt := tt2) (k1 := k12) (k2 := k22) (k3 := k32) (k4 := k42) (k5 := k52) (Fr.keep kF) X' T' (fun p hp => ⟨(kN p (List.mem_append_right [(x, instObj 122 dx), (dx, wsD w xt t n tn nt tt tp cnt.length k1 k2 k3 k4 k5), (tp, wsT tc b tb), (tc, wsC us)] (List.mem_append_left ([] : List (Addr × Obj)) hp))).1, (kN p (List.mem_append_right [(x, instObj 122 dx), (dx, wsD w xt t n tn nt tt tp cnt.length k1 k2 k3 k4 k5), (tp, wsT tc b tb), (tc, wsC us)] (List.mem_append_left ([] : List (Addr × Obj)) hp))).2.2⟩) hi2 hcl2 hb02 hb12 ?_)
    intro h9 tk9 t9 hk9
    have F9 := Fr.keeps kF hk9
    have N9 := News.grown kN hk9
    clear kF kN
    rw [hl2]
    (try dsimp only)
    repeat' (first | (k_unfold; (try dsimp only)) | ((fail_if_success (with_reducible show InvEndN _ _ _ _ _ _ _)); (fail_if_success (with_reducible show KswEnd _ _ _ _ _ _ _ _ _ _ _ _)); (fail_if_success (with_reducible show LCg.CompEnd _ _ _ _ _ _ _ _ _ _ _ _ _ _)); (fail_if_success (with_reducible show LoopStepU _ _ _ _ _ _ _ _)); (fail_if_success (with_reducible show RL.TFEnd _ _ _ _ _ _ _)); (fail_if_success (with_reducible show RL.TFPost _ _ _ _ _ _ _ _ _)); (fail_if_success (with_reducible show wpAny _ _ (call (Value.ref 91) _) _ _ _)); (fail_if_success (with_reducible show wpAny _ _ (call (Value.ref 84) _) _ _ _)); (fail_if_success (with_reducible show wpAny _ _ (pyIter _) _ _ _)); first | walk1 | (dsimp only; walk1)))
    with_reducible rename Fr _ _ _ _ => kF
    with_reducible rename News _ _ _ _ => kN
    k_dflt (refine kst_range (σ := Unit) (n := 3) (fun _ => [(x, instObj 122 dx), (dx, wsD w xt t n tn nt tt tp cnt.length k1 k2 k3 k4 k5), (tp, wsT tc b tb), (tc, wsC us), (x2, instObj 122 dx2), (dx2, wsD w xt2 t2 n2 tn2 nt2 tt2 tp2 cnt2.length k12 k22 k32 k42 k52), (tp2, wsT tc2 b2 tb2), (tc2, wsC us2)]) (fun _ => []) (fun _ => True) [] (fun pre _ => pre.all (lsB cnt b nt cnt2 b2 nt2) = true) () rfl (by assumption) (by decide) (by rfl) kF kN trivial (fun _ hq => nomatch hq) rfl ?_ ?_)
    · intro c pre ts tts u h' tk own hj hlt2 hoff _ hp F N
      have hts0 : 1 ≤ ts := by omega
      have hts1 : ts ≤ 5 := by omega
      clear kF kN
      (try dsimp only)
      (try k_unmd)
      (try k_fold)
      repeat' (first | (k_unfold; (try dsimp only)) | ((fail_if_success (with_reducible show InvEndN _ _ _ _ _ _ _)); (fail_if_success (with_reducible show KswEnd _ _ _ _ _ _ _ _ _ _ _ _)); (fail_if_success (with_reducible show LCg.CompEnd _ _ _ _ _ _ _ _ _ _ _ _ _ _)); (fail_if_success (with_reducible show LoopStepU _ _ _ _ _ _ _ _)); (fail_if_success (with_reducible show RL.TFEnd _ _ _ _ _ _ _)); (fail_if_success (with_reducible show RL.TFPost _ _ _ _ _ _ _ _ _)); (fail_if_success (with_reducible show wpAny _ _ (call (Value.ref 91) _) _ _ _)); (fail_if_success (with_reducible show wpAny _ _ (call (Value.ref 84) _) _ _ _)); (fail_if_success (with_reducible show wpAny _ _ (pyIter _) _ _ _)); first | walk1 | (dsimp only; walk1)))
      (try dsimp only [List.append_nil, List.cons_append, List.nil_append])
      with_reducible rename Fr _ _ _ _ => kF
      with_reducible rename News _ _ _ _ => kN
      refine lower rfl (by decide) (by decide) (c_indent (x := x) (dx := dx) (tp := tp) (tc := tc) (us := us) (cnt := cnt) (b := b) (n := n) (nt := nt) (xt := xt) (t := t) (tb := tb) (tn := tn) (tt := tt) (k1 := k1) (k2 := k2) (k3 := k3) (k4 := k4) (k5 := k5) (Fr.keep kF) X' T' (fun p hp => ⟨(kN p (List.mem_append_left ([(x2, instObj 122 dx2), (dx2, wsD w xt2 t2 n2 tn2 nt2 tt2 tp2 cnt2.length k12 k22 k32 k42 k52), (tp2, wsT tc2 b2 tb2), (tc2, wsC us2)] ++ own) hp)).1, (kN p (List.mem_append_left ([(x2, instObj 122 dx2), (dx2, wsD w xt2 t2 n2 tn2 nt2 tt2 tp2 cnt2.length k12 k22 k32 k42 k52), (tp2, wsT tc2 b2 tb2), (tc2, wsC us2)] ++ own) hp)).2.2⟩) hi hcl hb0 hb1 hnt0 hnt1 hcv hts0 hts1 ?_)
      intro h9 tk9 t9 hk9
      have F9 := Fr.keeps kF hk9
      have N9 := News.grown kN hk9
      clear kF kN
      (try dsimp only)
      repeat' (first | (k_unfold; (try dsimp only)) | ((fail_if_success (with_reducible show InvEndN _ _ _ _ _ _ _)); (fail_if_success (with_reducible show KswEnd _ _ _ _ _ _ _ _ _ _ _ _)); (fail_if_success (with_reducible show LCg.CompEnd _ _ _ _ _ _ _ _ _ _ _ _ _ _)); (fail_if_success (with_reducible show LoopStepU _ _ _ _ _ _ _ _)); (fail_if_success (with_reducible show RL.TFEnd _ _ _ _ _ _ _)); (fail_if_success (with_reducible show RL.TFPost _ _ _ _ _ _ _ _ _)); (fail_if_success (with_reducible show wpAny _ _ (call (Value.ref 91) _) _ _ _)); (fail_if_success (with_reducible show wpAny _ _ (call (Value.ref 84) _) _ _ _)); (fail_if_success (with_reducible show wpAny _ _ (pyIter _) _ _ _)); first | walk1 | (dsimp only; walk1)))
      (try dsimp only [List.append_nil, List.cons_append, List.nil_append])
      with_reducible rename Fr _ _ _ _ => kF
      with_reducible rename News _ _ _ _ => kN
      refine lower rfl (by decide) (by decide) (c_indent (x := x2) (dx := dx2) (tp := tp2) (tc := tc2) (us := us2) (cnt := cnt2) (b := b2) (n := n2) (nt := nt2) (xt := xt2) (t := t2) (tb := tb2) (tn := tn2) (tt := tt2) (k1 := k12) (k2 := k22) (k3 := k32) (k4 := k42) (k5 := k52) (Fr.keep kF) X' T' (fun p hp => ⟨(kN p (List.mem_append_right [(x, instObj 122 dx), (dx, wsD w xt t n tn nt tt tp cnt.length k1 k2 k3 k4 k5), (tp, wsT tc b tb), (tc, wsC us)] (List.mem_append_left own hp))).1, (kN p (List.mem_append_right [(x, instObj 122 dx), (dx, wsD w xt t n tn nt tt tp cnt.length k1 k2 k3 k4 k5), (tp, wsT tc b tb), (tc, wsC us)] (List.mem_append_left own hp))).2.2⟩) hi2 hcl2 hb02 hb12 hnt02 hnt12 hcv2 hts0 hts1 ?_)
      intro h9 tk9 t9 hk9
      have F9 := Fr.keeps kF hk9
      have N9 := News.grown kN hk9
      clear kF kN
      (try dsimp only)
      repeat' (first | (k_unfold; (try dsimp only)) | ((fail_if_success (with_reducible show InvEndN _ _ _ _ _ _ _)); (fail_if_success (with_reducible show KswEnd _ _ _ _ _ _ _ _ _ _ _ _)); (fail_if_success (with_reducible show LCg.CompEnd _ _ _ _ _ _ _ _ _ _ _ _ _ _)); (fail_if_success (with_reducible show LoopStepU _ _ _ _ _ _ _ _)); (fail_if_success (with_reducible show RL.TFEnd _ _ _ _ _ _ _)); (fail_if_success (with_reducible show RL.TFPost _ _ _ _ _ _ _ _ _)); (fail_if_success (with_reducible show wpAny _ _ (call (Value.ref 91) _) _ _ _)); (fail_if_success (with_reducible show wpAny _ _ (call (Value.ref 84) _) _ _ _)); (fail_if_success (with_reducible show wpAny _ _ (pyIter _) _ _ _)); first | walk1 | (dsimp only; walk1)))
      · rename_i hc
        with_reducible rename Fr _ _ _ _ => kF
        with_reducible rename News _ _ _ _ => kN
        have hK := kp_back hg kF.keep (fun p hp => (kN p (List.mem_append_left own hp)).1) (fun p hp => (hled p hp).1)
        have hv : lsF cnt b n nt cnt2 b2 n2 nt2 = false := by
          unfold lsF
          rw [List.all_eq_false.mpr ⟨ts, ts_mem hj hlt2, by unfold lsB; rw [decide_eq_true hc]; decide⟩]
          exact Bool.and_false _
        rw [hv] at h
        exact h _ _ hK
      · rename_i hc
        with_reducible rename Fr _ _ _ _ => kF
        with_reducible rename News _ _ _ _ => kN
        refine kst_end () kF kN (fun p hq => List.mem_append_left own hq) (fun p hq => List.mem_append_right [(x, instObj 122 dx), (dx, wsD w xt t n tn nt tt tp cnt.length k1 k2 k3 k4 k5), (tp, wsT tc b tb), (tc, wsC us), (x2, instObj 122 dx2), (dx2, wsD w xt2 t2 n2 tn2 nt2 tt2 tp2 cnt2.length k12 k22 k32 k42 k52), (tp2, wsT tc2 b2 tb2), (tc2, wsC us2)] hq) rfl trivial (fun _ hq => nomatch hq) ?_ ?_
        · (intro z h1 h2 h3; simp only [List.contains_cons, List.contains_nil, Bool.or_false, Bool.or_eq_false_iff, beq_eq_false_iff_ne, ne_eq] at h3; simp only [List.forall_mem_cons, List.not_mem_nil, false_implies, implies_true, and_true, ne_eq] at h2; simp [h1, h2, h3, kstB])
        · rw [List.all_append, hp, List.all_cons, List.all_nil]
          unfold lsB
          rw [decide_eq_false hc]
          rfl
    · intro c u h' tk _ hp F N
      clear kF kN
      repeat' (first | (k_unfold; (try dsimp only)) | ((fail_if_success (with_reducible show InvEndN _ _ _ _ _ _ _)); (fail_if_success (with_reducible show KswEnd _ _ _ _ _ _ _ _ _ _ _ _)); (fail_if_success (with_reducible show LCg.CompEnd _ _ _ _ _ _ _ _ _ _ _ _ _ _)); (fail_if_success (with_reducible show LoopStepU _ _ _ _ _ _ _ _)); (fail_if_success (with_reducible show RL.TFEnd _ _ _ _ _ _ _)); (fail_if_success (with_reducible show RL.TFPost _ _ _ _ _ _ _ _ _)); (fail_if_success (with_reducible show wpAny _ _ (call (Value.ref 91) _) _ _ _)); (fail_if_success (with_reducible show wpAny _ _ (call (Value.ref 84) _) _ _ _)); (fail_if_success (with_reducible show wpAny _ _ (pyIter _) _ _ _)); first | walk1 | (dsimp only; walk1)))
      with_reducible rename Fr _ _ _ _ => kF
      with_reducible rename News _ _ _ _ => kN
      have hK := kp_back hg kF.keep (fun p hp => (kN p hp).1) (fun p hp => (hled p hp).1)
      have hv : lsF cnt b n nt cnt2 b2 n2 nt2 = true := by
        unfold lsF
        rw [hp, decide_eq_false (by assumption)]
        rfl
      rw [hv] at h
      exact h _ _ hK)
end RL
end
section
open PySem PySem.W PyProof.Rows PySem.Calls
namespace RL
section
variable {prog : Program} {w : World} {A : Around} {E : Value → Shared → Prop} {s : Shared} {env : Env} {h₀ : Heap} {x : Str} {body : List Stmt} {Q : Flow → Shared → Prop}
theorem rng_free {r : Addr} {a₀ b₀ : Int} {t₀ u₀ v₀ : Tok} {n : Nat} {m₀ : Str → Option Value} {news : List (Addr × Obj)} (J : List Int → (Str → Option Value) → List (Addr × Obj) → Prop)
    (hh : A.handled = none) (hr : IsRange s.heap r a₀ b₀ 1 t₀ u₀ v₀) (hsmall : Builtin.Range.small a₀ b₀ 1 = true) (hn : Builtin.Range.rangeSize a₀ b₀ 1 = (n : Int)) (F : Fr h₀ env.locals s.heap m₀) (N : News h₀ env.locals s.heap news) (hj : J [] m₀ news)
    (turn : ∀ (pre : List Int) (k : Int) t m₁ news₁ h tk I oI, k = a₀ + (pre.length : Int) → pre.length < n → J pre m₁ news₁ → (∀ p ∈ news₁, p.1 ≠ I) →
      Fr h₀ env.locals h (fun y => if y = x then some (.int k t) else m₁ y) → News h₀ env.locals h (news₁ ++ [(I, oI)]) →
      wpAny (model prog w) A (execs body env) (TFPost h₀ env.locals I oI (J (pre ++ [k])) { s with heap := h, toks := tk } Q) E { s with heap := h, toks := tk })
    (done : ∀ m₁ news₁ h tk, J (rangeKs a₀ n) m₁ news₁ → Fr h₀ env.locals h m₁ → News h₀ env.locals h news₁ → Q .next { s with heap := h, toks := tk }) :
    wpAny (model prog w) A (pyIter (.ref r)) (fun it s₂ => LoopAtV prog w A h₀ env x body Q E it s₂) E s := by
  refine wpAny_pyIter_range hr hsmall ?_
  have W : Walks prog w A s.heap.objs.size [s.heap.objs.size] [s.heap.objs.size] n (fun i v => i < n ∧ ∃ t, v = .int (a₀ + i * 1) t)
      (fun i h => IsRangeIter h s.heap.objs.size (a₀ + (i : Nat) * 1) ((n : Int) - (i : Nat)) 1) := (Walks.range hh _ a₀ 1 n).bound
  have hg : ∀ i, i < n → (rangeKs a₀ n)[i]? = some (a₀ + (i : Int)) := fun i hi => by simp [rangeKs, hi]
  refine one_core (ks := rangeKs a₀ n) (V := Value.int) J W (rangeKs_length a₀ n) ?_ (fun i h st => ⟨_, st⟩) (by show IsRangeIter _ _ _ _ _; rw [hn]; simpa using Heap.get?_push_size _ rfl) F N hj ?_ done
  · rintro i v hi ⟨_, u, rfl⟩
    exact ⟨_, u, hg i hi, by rw [Int.mul_one]⟩
  · intro i k t m₁ news₁ h tk I oI hk hJ hoff F' N'
    have hi : i < n := by
      have := (List.getElem?_eq_some_iff.mp hk).1
      rwa [rangeKs_length] at this
    have hlen : ((rangeKs a₀ n).take i).length = i := by rw [List.length_take, rangeKs_length]; exact Nat.min_eq_left (Nat.le_of_lt hi)
    have ek : k = a₀ + (i : Int) := Option.some.inj (hk.symm.trans (hg i hi))
    exact turn _ k t m₁ news₁ h tk I oI (by rw [hlen]; exact ek) (by rw [hlen]; exact hi) hJ hoff F' N'
end
abbrev Tri := Addr × (Int × Tok) × (Int × Tok) × (Int × Tok)
abbrev triO (e : Tri) : Addr × Obj := (e.1, { cls := .type "tuple", data := .seq #[.int e.2.1.1 e.2.1.2, .int e.2.2.1.1 e.2.2.1.2, .int e.2.2.2.1 e.2.2.2.2] })
abbrev triV (e : Tri) : Value := .ref e.1
abbrev triI (e : Tri) : Int × Int × Int := (e.2.1.1, e.2.2.1.1, e.2.2.2.1)
def nlG (cnt : List Int) (b nt : Int) (cnt2 : List Int) (b2 nt2 : Int) (l : List (Int × Int × Int)) (ts : Int) : List (Int × Int × Int) := if lvF cnt b nt ts ≥ lvF cnt2 b2 nt2 ts then l ++ [(ts, lvF cnt b nt ts, lvF cnt2 b2 nt2 ts)] else l
def nlF (cnt : List Int) (b nt : Int) (cnt2 : List Int) (b2 nt2 : Int) : List (Int × Int × Int) := (rangeKs 1 4).foldl (nlG cnt b nt cnt2 b2 nt2) []
theorem nl_lens (cnt : List Int) (b nt : Int) (cnt2 : List Int) (b2 nt2 : Int) : ∀ (ks : List Int) (l : List (Int × Int × Int)), (ks.foldl (nlG cnt b nt cnt2 b2 nt2) l).length ≤ l.length + ks.length
  | [], l => by simp
  | k :: r, l => by
    have h1 := nl_lens cnt b nt cnt2 b2 nt2 r (nlG cnt b nt cnt2 b2 nt2 l k)
    have h2 : (nlG cnt b nt cnt2 b2 nt2 l k).length ≤ l.length + 1 := by unfold nlG; split <;> simp
    simp only [List.foldl_cons, List.length_cons]
    omega
theorem c_notless {w : World} {s : Shared} {mean : ExcName → Option Value} {mg mb : Str → Option Value} {Q : Value → Shared → Prop} {E : Value → Shared → Prop} {h₀ : Heap} {x dx tp tc : Addr} {us : List Value} {cnt : List Int} {b n nt : Int} {xt : Str} {t tb tn tt k1 k2 k3 k4 k5 : Tok} {x2 dx2 tp2 tc2 : Addr} {us2 : List Value} {cnt2 : List Int} {b2 n2 nt2 : Int} {xt2 : Str} {t2 tb2 tn2 tt2 k12 k22 k32 k42 k52 : Tok} {v1 : Int}
    (hk₀ : Kp h₀ s.heap) (X : (hd.heap_39 w.params).In h₀) (T : Top hd.view_39 (looseW hd.view_39 [Str.ofString "insort_left", Str.ofString "bisect_left", Str.ofString "Whitespace"]) mean mg mb h₀)
    (hled : ∀ p ∈ [(x, instObj 122 dx), (dx, wsD w xt t n tn nt tt tp cnt.length k1 k2 k3 k4 k5), (tp, wsT tc b tb), (tc, wsC us), (x2, instObj 122 dx2), (dx2, wsD w xt2 t2 n2 tn2 nt2 tt2 tp2 cnt2.length k12 k22 k32 k42 k52), (tp2, wsT tc2 b2 tb2), (tc2, wsC us2)], s.heap.get? p.1 = some p.2 ∧ h₀.get? p.1 = none)
    (hi : IntsAre us cnt) (hcl : cnt.length ≤ 42) (hb0 : 0 ≤ b) (hb1 : b ≤ 41) (hnt0 : 0 ≤ nt) (hnt1 : nt ≤ 41) (hcv : ∀ k : Nat, 0 ≤ cnt.getD k 0 ∧ cnt.getD k 0 ≤ 41) (hi2 : IntsAre us2 cnt2) (hcl2 : cnt2.length ≤ 42) (hb02 : 0 ≤ b2) (hb12 : b2 ≤ 41) (hnt02 : 0 ≤ nt2) (hnt12 : nt2 ≤ 41) (hcv2 : ∀ k : Nat, 0 ≤ cnt2.getD k 0 ∧ cnt2.getD k 0 ≤ 41) (hl1 : (if b > (cnt.length : Int) - 1 then b else (cnt.length : Int) - 1) = v1) (hv1 : v1 ≤ 3) (hl2 : (if b2 > (cnt2.length : Int) - 1 then b2 else (cnt2.length : Int) - 1) = 3) (hs2 : 1 < cnt2.length)
    (h : ∀ (h' : Heap) (tk' : Nat) (la : Addr) (tl : List Tri) (nn : Nat), Kp s.heap h' → s.heap.get? la = none → (∀ e ∈ tl, s.heap.get? e.1 = none ∧ h'.get? (triO e).1 = some (triO e).2) → h'.get? la = some (listOf (tl.map triV).toArray nn) → tl.map triI = nlF cnt b nt cnt2 b2 nt2 → Q (.ref la) { s with heap := h', toks := tk' }) :
    wpAny (model Pg w) (Ar 480 280) (call (.ref 119) [.ref x, .ref x2]) Q E s := by
  k_with_none
  k_with "call builtin:max" => (k_here; (with_reducible show wpAny _ _ (call (Value.builtin "max") [Value.int _ _, Value.int 3 _]) _ _ _); refine max3 (by k_asm) (by k_asm) (by assumption) ?_; intro _ _ _ _ _)
  k_with "binaryOp Add int int" => ((with_reducible show wpAny _ _ (binaryOp Operator.Add (Value.int 3 _) (Value.int 1 _)) _ _ _); refine add31 ?_; intro _ _)
  k_with "binaryOp Add int int" => ((with_reducible show wpAny _ _ (binaryOp Operator.Add (Value.int 4 _) (Value.int 1 _)) _ _ _); refine add41 ?_; intro _ _)
  refine' enterH hk₀ X T (led := [(x, instObj 122 dx), (dx, wsD w xt t n tn nt tt tp cnt.length k1 k2 k3 k4 k5), (tp, wsT tc b tb), (tc, wsC us), (x2, instObj 122 dx2), (dx2, wsD w xt2 t2 n2 tn2 nt2 tt2 tp2 cnt2.length k12 k22 k32 k42 k52), (tp2, wsT tc2 b2 tb2), (tc2, wsC us2)]) hled ?k6 ?k7 ?k8 ?k9 ?kB ?c2 ?c3 ?c4 ?c5 ?_
  case k6 => k_is
  case k7 => k_is
  case k8 => decide
  case k9 => exact BindsTo.of_eq rfl
  case kB => exact locs rfl
  case c2 => rfl
  case c3 => rfl
  case c4 => rfl
  case c5 => decide
  intro g L' h₁ tk hg hg0 X' T' F' N' hlt
  clear X T
  (try dsimp only)
  (try k_unmd)
  k_fold
  repeat' (first | (k_unfold; (try dsimp only)) | ((fail_if_success (with_reducible show InvEndN _ _ _ _ _ _ _)); (fail_if_success (with_reducible show KswEnd _ _ _ _ _ _ _ _ _ _ _ _)); (fail_if_success (with_reducible show LCg.CompEnd _ _ _ _ _ _ _ _ _ _ _ _ _ _)); (fail_if_success (with_reducible show LoopStepU _ _ _ _ _ _ _ _)); (fail_if_success (with_reducible show RL.TFEnd _ _ _ _ _ _ _)); (fail_if_success (with_reducible show RL.TFPost _ _ _ _ _ _ _ _ _)); (fail_if_success (with_reducible show wpAny _ _ (call (Value.ref 91) _) _ _ _)); (fail_if_success (with_reducible show wpAny _ _ (call (Value.ref 84) _) _ _ _)); (fail_if_success (with_reducible show wpAny _ _ (pyIter _) _ _ _)); first | walk1 | (dsimp only; walk1)))
  (try dsimp only [List.append_nil])
  with_reducible rename Fr _ _ _ _ => kF
  with_reducible rename News _ _ _ _ => kN
  refine lower rfl (by decide) (by decide) (c_longest (x := x) (dx := dx) (tp := tp) (tc := tc) (us := us) (cnt := cnt) (b := b) (n := n) (nt := nt) (xt := xt) (t := t) (tb := tb) (tn := tn) (tt := tt) (k1 := k1) (k2 := k2) (k3 := k3) (k4 := k4) (k5 := k5) (Fr.keep kF) X' T' (fun p hp => ⟨(kN p (List.mem_append_left ([(x2, instObj 122 dx2), (dx2, wsD w xt2 t2 n2 tn2 nt2 tt2 tp2 cnt2.length k12 k22 k32 k42 k52), (tp2, wsT tc2 b2 tb2), (tc2, wsC us2)] ++ ([] : List (Addr × Obj))) hp)).1, (kN p (List.mem_append_left ([(x2, instObj 122 dx2), (dx2, wsD w xt2 t2 n2 tn2 nt2 tt2 tp2 cnt2.length k12 k22 k32 k42 k52), (tp2, wsT tc2 b2 tb2), (tc2, wsC us2)] ++ ([] : List (Addr × Obj))) hp)).2.2⟩) hi hcl hb0 hb1 ?_)
  intro h9 tk9 t9 hk9
  have F9 := Fr.keeps kF hk9
  have N9 := News.grown kN hk9
  clear kF kN
  rw [hl1]
  (try dsimp only)
  repeat' (first | (k_unfold; (try dsimp only)) | ((fail_if_success (with_reducible show InvEndN _ _ _ _ _ _ _)); (fail_if_success (with_reducible show KswEnd _ _ _ _ _ _ _ _ _ _ _ _)); (fail_if_success (with_reducible show LCg.CompEnd _ _ _ _ _ _ _ _ _ _ _ _ _ _)); (fail_if_success (with_reducible show LoopStepU _ _ _ _ _ _ _ _)); (fail_if_success (with_reducible show RL.TFEnd _ _ _ _ _ _ _)); (fail_if_success (with_reducible show RL.TFPost _ _ _ _ _ _ _ _ _)); (fail_if_success (with_reducible show wpAny _ _ (call (Value.ref 91) _) _ _ _)); (fail_if_success (with_reducible show wpAny _ _ (call (Value.ref 84) _) _ _ _)); (fail_if_success (with_reducible show wpAny _ _ (pyIter _) _ _ _)); first | walk1 | (dsimp only; walk1)))
  (try dsimp only [List.append_nil])
  with_reducible rename Fr _ _ _ _ => kF
  with_reducible rename News _ _ _ _ => kN
  refine lower rfl (by decide) (by decide) (c_longest (x := x2) (dx := dx2) (tp := tp2) (tc := tc2) (us := us2) (cnt := cnt2) (b := b2) (n := n2) (nt := nt2) (xt := xt2) (t := t2) (tb := tb2) (tn := tn2) (tt := tt2) (k1 := k12) (k2 := k22) (k3 := k32) (k4 := k42) (k5 := k52) (Fr.keep kF) X' T' (fun p hp => ⟨(kN p (List.mem_append_right [(x, instObj 122 dx), (dx, wsD w xt t n tn nt tt tp cnt.length k1 k2 k3 k4 k5), (tp, wsT tc b tb), (tc, wsC us)] (List.mem_append_left ([] : List (Addr × Obj)) hp))).1, (kN p (List.mem_append_right [(x, instObj 122 dx), (dx, wsD w xt t n tn nt tt tp cnt.length k1 k2 k3 k4 k5), (tp, wsT tc b tb), (tc, wsC us)] (List.mem_append_left ([] : List (Addr × Obj)) hp))).2.2⟩) hi2 hcl2 hb02 hb12 ?_)
  intro h9 tk9 t9 hk9
  have F9 := Fr.keeps kF hk9
  have N9 := News.grown kN hk9
  clear kF kN
  rw [hl2]
  (try dsimp only)
  repeat' (first | (k_unfold; (try dsimp only)) | ((fail_if_success (with_reducible show InvEndN _ _ _ _ _ _ _)); (fail_if_success (with_reducible show KswEnd _ _ _ _ _ _ _ _ _ _ _ _)); (fail_if_success (with_reducible show LCg.CompEnd _ _ _ _ _ _ _ _ _ _ _ _ _ _)); (fail_if_success (with_reducible show LoopStepU _ _ _ _ _ _ _ _)); (fail_if_success (with_reducible show RL.TFEnd _ _ _ _ _ _ _)); (fail_if_success (with_reducible show RL.TFPost _ _ _ _ _ _ _ _ _)); (fail_if_success (with_reducible show wpAny _ _ (call (Value.ref 91) _) _ _ _)); (fail_if_success (with_reducible show wpAny _ _ (call (Value.ref 84) _) _ _ _)); (fail_if_success (with_reducible show wpAny _ _ (pyIter _) _ _ _)); first | walk1 | (dsimp only; walk1)))
  rename_i la _ l1 _ _ _ _ _ _ _ _ _ _ hR kF kN _
  refine Classical.byContradiction fun hG => ?_
  obtain ⟨m1, hm1, F2⟩ := fr_map kF
  have hma : m1 (Str.ofString "a") = some (.ref la) := by rw [hm1]; rfl
  have hms : m1 (Str.ofString "self") = some (.ref x) := by rw [hm1]; rfl
  have hmo : m1 (Str.ofString "other") = some (.ref x2) := by rw [hm1]; rfl
  clear hm1 kF
  refine hG ?_
  clear hG
  k_dflt (refine rng_free (n := 4) (fun pre mm nx => ∃ c : List Tri × Nat, nx = [(la, listOf (c.1.map triV).toArray c.2), (x, instObj 122 dx), (dx, wsD w xt t n tn nt tt tp cnt.length k1 k2 k3 k4 k5), (tp, wsT tc b tb), (tc, wsC us), (x2, instObj 122 dx2), (dx2, wsD w xt2 t2 n2 tn2 nt2 tt2 tp2 cnt2.length k12 k22 k32 k42 k52), (tp2, wsT tc2 b2 tb2), (tc2, wsC us2)] ++ c.1.map triO ∧ (∀ e ∈ c.1, @LT.lt Nat _ la e.1) ∧
      (∀ p ∈ [(Str.ofString "a", Value.ref la), (Str.ofString "self", Value.ref x), (Str.ofString "other", Value.ref x2)], mm p.1 = some p.2) ∧ c.1.map triI = pre.foldl (nlG cnt b nt cnt2 b2 nt2) []) rfl hR (by decide) (by rfl) F2 kN ⟨([], 0), rfl, (fun _ hq => nomatch hq), List.forall_mem_cons.mpr ⟨hma, List.forall_mem_cons.mpr ⟨hms, List.forall_mem_cons.mpr ⟨hmo, List.forall_mem_nil _⟩⟩⟩, rfl⟩ ?_ ?_)
  · intro pre ts tts m₁ news₁ h2 tk2 I oI hj hlt2 hJJ hoff F3 N3
    refine Classical.byContradiction fun hG => ?_
    obtain ⟨⟨tl, nn⟩, rfl, hla, hps, hst⟩ := hJJ
    dsimp only at hla hps hst hoff N3
    replace F3 := fr_ps hps F3
    dsimp only [kstB] at F3
    have hts0 : 1 ≤ ts := by omega
    have hts1 : ts ≤ 5 := by omega
    have hlaI : @Ne Nat la I := hoff _ List.mem_cons_self
    obtain ⟨own, hown⟩ : ∃ own, own = tl.map triO ++ [(I, oI)] := ⟨_, rfl⟩
    have hOff : OwnOff own [la] := by
      intro p hp b' hb'
      rw [List.mem_singleton.mp hb']
      rw [hown] at hp
      rcases List.mem_append.mp hp with hp | hp
      · obtain ⟨e, he, rfl⟩ := List.mem_map.mp hp
        exact Nat.ne_of_gt (hla e he)
      · rw [List.mem_singleton.mp hp]; exact Ne.symm hlaI
    have N4 : News g L' h2 ([(la, listOf (tl.map triV).toArray nn), (x, instObj 122 dx), (dx, wsD w xt t n tn nt tt tp cnt.length k1 k2 k3 k4 k5), (tp, wsT tc b tb), (tc, wsC us), (x2, instObj 122 dx2), (dx2, wsD w xt2 t2 n2 tn2 nt2 tt2 tp2 cnt2.length k12 k22 k32 k42 k52), (tp2, wsT tc2 b2 tb2), (tc2, wsC us2)] ++ own) := by
      rw [hown, ← List.append_assoc]; exact N3
    have htl : tl.length ≤ 8 := by
      have h1 := nl_lens cnt b nt cnt2 b2 nt2 pre []
      rw [← hst] at h1
      simp at h1
      omega
    refine hG ?_
    clear hG
    clear N3 kN
    (try dsimp only)
    (try k_unmd)
    (try k_fold)
    repeat' (first | (k_unfold; (try dsimp only)) | ((fail_if_success (with_reducible show InvEndN _ _ _ _ _ _ _)); (fail_if_success (with_reducible show KswEnd _ _ _ _ _ _ _ _ _ _ _ _)); (fail_if_success (with_reducible show LCg.CompEnd _ _ _ _ _ _ _ _ _ _ _ _ _ _)); (fail_if_success (with_reducible show LoopStepU _ _ _ _ _ _ _ _)); (fail_if_success (with_reducible show RL.TFEnd _ _ _ _ _ _ _)); (fail_if_success (with_reducible show RL.TFPost _ _ _ _ _ _ _ _ _)); (fail_if_success (with_reducible show wpAny _ _ (call (Value.ref 91) _) _ _ _)); (fail_if_success (with_reducible show wpAny _ _ (call (Value.ref 84) _) _ _ _)); (fail_if_success (with_reducible show wpAny _ _ (pyIter _) _ _ _)); first | walk1 | (dsimp only; walk1)))
    (try dsimp only [List.append_nil, List.cons_append, List.nil_append])
    with_reducible rename Fr _ _ _ _ => kF
    with_reducible rename News _ _ _ _ => kN
    refine lower rfl (by decide) (by decide) (c_indent (x := x) (dx := dx) (tp := tp) (tc := tc) (us := us) (cnt := cnt) (b := b) (n := n) (nt := nt) (xt := xt) (t := t) (tb := tb) (tn := tn) (tt := tt) (k1 := k1) (k2 := k2) (k3 := k3) (k4 := k4) (k5 := k5) (Fr.keep kF) X' T' (fun p hp => ⟨(kN p (List.mem_append_right [(la, listOf (tl.map triV).toArray nn)] (List.mem_append_left ([(x2, instObj 122 dx2), (dx2, wsD w xt2 t2 n2 tn2 nt2 tt2 tp2 cnt2.length k12 k22 k32 k42 k52), (tp2, wsT tc2 b2 tb2), (tc2, wsC us2)] ++ own) hp))).1, (kN p (List.mem_append_right [(la, listOf (tl.map triV).toArray nn)] (List.mem_append_left ([(x2, instObj 122 dx2), (dx2, wsD w xt2 t2 n2 tn2 nt2 tt2 tp2 cnt2.length k12 k22 k32 k42 k52), (tp2, wsT tc2 b2 tb2), (tc2, wsC us2)] ++ own) hp))).2.2⟩) hi hcl hb0 hb1 hnt0 hnt1 hcv hts0 hts1 ?_)
    intro h9 tk9 t9 hk9
    have F9 := Fr.keeps kF hk9
    have N9 := News.grown kN hk9
    clear kF kN
    (try dsimp only)
    repeat' (first | (k_unfold; (try dsimp only)) | ((fail_if_success (with_reducible show InvEndN _ _ _ _ _ _ _)); (fail_if_success (with_reducible show KswEnd _ _ _ _ _ _ _ _ _ _ _ _)); (fail_if_success (with_reducible show LCg.CompEnd _ _ _ _ _ _ _ _ _ _ _ _ _ _)); (fail_if_success (with_reducible show LoopStepU _ _ _ _ _ _ _ _)); (fail_if_success (with_reducible show RL.TFEnd _ _ _ _ _ _ _)); (fail_if_success (with_reducible show RL.TFPost _ _ _ _ _ _ _ _ _)); (fail_if_success (with_reducible show wpAny _ _ (call (Value.ref 91) _) _ _ _)); (fail_if_success (with_reducible show wpAny _ _ (call (Value.ref 84) _) _ _ _)); (fail_if_success (with_reducible show wpAny _ _ (pyIter _) _ _ _)); first | walk1 | (dsimp only; walk1)))
    (try dsimp only [List.append_nil, List.cons_append, List.nil_append])
    with_reducible rename Fr _ _ _ _ => kF
    with_reducible rename News _ _ _ _ => kN
    refine lower rfl (by decide) (by decide) (c_indent (x := x2) (dx := dx2) (tp := tp2) (tc := tc2) (us := us2) (cnt := cnt2) (b := b2) (n := n2) (nt := nt2) (xt := xt2) (t := t2) (tb := tb2) (tn := tn2) (tt := tt2) (k1 := k12) (k2 := k22) (k3 := k32) (k4 := k42) (k5 := k52) (Fr.keep kF) X' T' (fun p hp => ⟨(kN p (List.mem_append_right [(la, listOf (tl.map triV).toArray nn)] (List.mem_append_right [(x, instObj 122 dx), (dx, wsD w xt t n tn nt tt tp cnt.length k1 k2 k3 k4 k5), (tp, wsT tc b tb), (tc, wsC us)] (List.mem_append_left own hp)))).1, (kN p (List.mem_append_right [(la, listOf (tl.map triV).toArray nn)] (List.mem_append_right [(x, instObj 122 dx), (dx, wsD w xt t n tn nt tt tp cnt.length k1 k2 k3 k4 k5), (tp, wsT tc b tb), (tc, wsC us)] (List.mem_append_left own hp)))).2.2⟩) hi2 hcl2 hb02 hb12 hnt02 hnt12 hcv2 hts0 hts1 ?_)
    intro h9 tk9 t9 hk9
    have F9 := Fr.keeps kF hk9
    have N9 := News.grown kN hk9
    clear kF kN
    (try dsimp only)
    repeat' (first | (k_unfold; (try dsimp only)) | ((fail_if_success (with_reducible show InvEndN _ _ _ _ _ _ _)); (fail_if_success (with_reducible show KswEnd _ _ _ _ _ _ _ _ _ _ _ _)); (fail_if_success (with_reducible show LCg.CompEnd _ _ _ _ _ _ _ _ _ _ _ _ _ _)); (fail_if_success (with_reducible show LoopStepU _ _ _ _ _ _ _ _)); (fail_if_success (with_reducible show RL.TFEnd _ _ _ _ _ _ _)); (fail_if_success (with_reducible show RL.TFPost _ _ _ _ _ _ _ _ _)); (fail_if_success (with_reducible show wpAny _ _ (call (Value.ref 91) _) _ _ _)); (fail_if_success (with_reducible show wpAny _ _ (call (Value.ref 84) _) _ _ _)); (fail_if_success (with_reducible show wpAny _ _ (pyIter _) _ _ _)); first | walk1 | (dsimp only; walk1)))
    · (try dsimp only [List.append_nil, List.cons_append, List.nil_append])
      with_reducible rename Fr _ _ _ _ => kF
      with_reducible rename News _ _ _ _ => kN
      refine lower rfl (by decide) (by decide) (c_indent (x := x) (dx := dx) (tp := tp) (tc := tc) (us := us) (cnt := cnt) (b := b) (n := n) (nt := nt) (xt := xt) (t := t) (tb := tb) (tn := tn) (tt := tt) (k1 := k1) (k2 := k2) (k3 := k3) (k4 := k4) (k5 := k5) (Fr.keep kF) X' T' (fun p hp => ⟨(kN p (List.mem_append_right [(la, listOf (tl.map triV).toArray nn)] (List.mem_append_left ([(x2, instObj 122 dx2), (dx2, wsD w xt2 t2 n2 tn2 nt2 tt2 tp2 cnt2.length k12 k22 k32 k42 k52), (tp2, wsT tc2 b2 tb2), (tc2, wsC us2)] ++ own) hp))).1, (kN p (List.mem_append_right [(la, listOf (tl.map triV).toArray nn)] (List.mem_append_left ([(x2, instObj 122 dx2), (dx2, wsD w xt2 t2 n2 tn2 nt2 tt2 tp2 cnt2.length k12 k22 k32 k42 k52), (tp2, wsT tc2 b2 tb2), (tc2, wsC us2)] ++ own) hp))).2.2⟩) hi hcl hb0 hb1 hnt0 hnt1 hcv hts0 hts1 ?_)
      intro h9 tk9 t9 hk9
      have F9 := Fr.keeps kF hk9
      have N9 := News.grown kN hk9
      clear kF kN
      (try dsimp only)
      repeat' (first | (k_unfold; (try dsimp only)) | ((fail_if_success (with_reducible show InvEndN _ _ _ _ _ _ _)); (fail_if_success (with_reducible show KswEnd _ _ _ _ _ _ _ _ _ _ _ _)); (fail_if_success (with_reducible show LCg.CompEnd _ _ _ _ _ _ _ _ _ _ _ _ _ _)); (fail_if_success (with_reducible show LoopStepU _ _ _ _ _ _ _ _)); (fail_if_success (with_reducible show RL.TFEnd _ _ _ _ _ _ _)); (fail_if_success (with_reducible show RL.TFPost _ _ _ _ _ _ _ _ _)); (fail_if_success (with_reducible show wpAny _ _ (call (Value.ref 91) _) _ _ _)); (fail_if_success (with_reducible show wpAny _ _ (call (Value.ref 84) _) _ _ _)); (fail_if_success (with_reducible show wpAny _ _ (pyIter _) _ _ _)); first | walk1 | (dsimp only; walk1)))
      (try dsimp only [List.append_nil, List.cons_append, List.nil_append])
      with_reducible rename Fr _ _ _ _ => kF
      with_reducible rename News _ _ _ _ => kN
      refine lower rfl (by decide) (by decide) (c_indent (x := x2) (dx := dx2) (tp := tp2) (tc := tc2) (us := us2) (cnt := cnt2) (b := b2) (n := n2) (nt := nt2) (xt := xt2) (t := t2) (tb := tb2) (tn := tn2) (tt := tt2) (k1 := k12) (k2 := k22) (k3 := k32) (k4 := k42) (k5 := k52) (Fr.keep kF) X' T' (fun p hp => ⟨(kN p (List.mem_append_right [(la, listOf (tl.map triV).toArray nn)] (List.mem_append_right [(x, instObj 122 dx), (dx, wsD w xt t n tn nt tt tp cnt.length k1 k2 k3 k4 k5), (tp, wsT tc b tb), (tc, wsC us)] (List.mem_append_left own hp)))).1, (kN p (List.mem_append_right [(la, listOf (tl.map triV).toArray nn)] (List.mem_append_right [(x, instObj 122 dx), (dx, wsD w xt t n tn nt tt tp cnt.length k1 k2 k3 k4 k5), (tp, wsT tc b tb), (tc, wsC us)] (List.mem_append_left own hp)))).2.2⟩) hi2 hcl2 hb02 hb12 hnt02 hnt12 hcv2 hts0 hts1 ?_)
      intro h9 tk9 t9 hk9
      have F9 := Fr.keeps kF hk9
      have N9 := News.grown kN hk9
      clear kF kN
      (try dsimp only)
      repeat' (first | (k_unfold; (try dsimp only)) | ((fail_if_success (with_reducible show InvEndN _ _ _ _ _ _ _)); (fail_if_success (with_reducible show KswEnd _ _ _ _ _ _ _ _ _ _ _ _)); (fail_if_success (with_reducible show LCg.CompEnd _ _ _ _ _ _ _ _ _ _ _ _ _ _)); (fail_if_success (with_reducible show LoopStepU _ _ _ _ _ _ _ _)); (fail_if_success (with_reducible show RL.TFEnd _ _ _ _ _ _ _)); (fail_if_success (with_reducible show RL.TFPost _ _ _ _ _ _ _ _ _)); (fail_if_success (with_reducible show wpAny _ _ (call (Value.ref 91) _) _ _ _)); (fail_if_success (with_reducible show wpAny _ _ (call (Value.ref 84) _) _ _ _)); (fail_if_success (with_reducible show wpAny _ _ (pyIter _) _ _ _)); first | walk1 | (dsimp only; walk1)))
      rename_i D' _ kF kN lD
      rename lvF cnt2 b2 nt2 ts ≤ lvF cnt b nt ts => hc
      have hDla : @LT.lt Nat _ la D' := lD _ List.mem_cons_self
      have hrest : ∀ p ∈ ([(x, instObj 122 dx), (dx, wsD w xt t n tn nt tt tp cnt.length k1 k2 k3 k4 k5), (tp, wsT tc b tb), (tc, wsC us), (x2, instObj 122 dx2), (dx2, wsD w xt2 t2 n2 tn2 nt2 tt2 tp2 cnt2.length k12 k22 k32 k42 k52), (tp2, wsT tc2 b2 tb2), (tc2, wsC us2)] ++ own), p.1 ≠ la := by
        intro p hp
        rcases List.mem_append.mp hp with hp | hp
        · simp only [List.mem_cons, List.not_mem_nil, or_false] at hp
          obtain ⟨q1, q2, q3, q4, q5, q6, q7, q8⟩ := l1
          rcases hp with rfl | rfl | rfl | rfl | rfl | rfl | rfl | rfl
          · exact Nat.ne_of_lt q1
          · exact Nat.ne_of_lt q2
          · exact Nat.ne_of_lt q3
          · exact Nat.ne_of_lt q4
          · exact Nat.ne_of_lt q5
          · exact Nat.ne_of_lt q6
          · exact Nat.ne_of_lt q7
          · exact Nat.ne_of_lt q8
        · exact hOff p hp la (List.mem_singleton.mpr rfl)
      k_dflt (refine append_K kF kN (Upd.tail (Nat.ne_of_gt hDla) (Upd.head hrest)) ?_ (by simp; rw [PySem.sizeLine_eq]; omega))
      intro h8 F8 N8
      clear kF kN
      repeat' (first | (k_unfold; (try dsimp only)) | ((fail_if_success (with_reducible show InvEndN _ _ _ _ _ _ _)); (fail_if_success (with_reducible show KswEnd _ _ _ _ _ _ _ _ _ _ _ _)); (fail_if_success (with_reducible show LCg.CompEnd _ _ _ _ _ _ _ _ _ _ _ _ _ _)); (fail_if_success (with_reducible show LoopStepU _ _ _ _ _ _ _ _)); (fail_if_success (with_reducible show RL.TFEnd _ _ _ _ _ _ _)); (fail_if_success (with_reducible show RL.TFPost _ _ _ _ _ _ _ _ _)); (fail_if_success (with_reducible show wpAny _ _ (call (Value.ref 91) _) _ _ _)); (fail_if_success (with_reducible show wpAny _ _ (call (Value.ref 84) _) _ _ _)); (fail_if_success (with_reducible show wpAny _ _ (pyIter _) _ _ _)); first | walk1 | (dsimp only; walk1)))
      with_reducible rename Fr _ _ _ _ => kF
      with_reducible rename News _ _ _ _ => kN
      obtain ⟨ta, tz, N7⟩ : ∃ ta tz, News g L' h8 (triO (D', (ts, tts), (lvF cnt b nt ts, ta), (lvF cnt2 b2 nt2 ts, tz)) :: (la, listOf ((tl ++ [(D', (ts, tts), (lvF cnt b nt ts, ta), (lvF cnt2 b2 nt2 ts, tz))]).map triV).toArray (nn + 1)) :: ([(x, instObj 122 dx), (dx, wsD w xt t n tn nt tt tp cnt.length k1 k2 k3 k4 k5), (tp, wsT tc b tb), (tc, wsC us), (x2, instObj 122 dx2), (dx2, wsD w xt2 t2 n2 tn2 nt2 tt2 tp2 cnt2.length k12 k22 k32 k42 k52), (tp2, wsT tc2 b2 tb2), (tc2, wsC us2)] ++ own)) := ⟨_, _, by
        rw [List.map_append, List.map_singleton, ← List.push_toArray]
        exact kN⟩
      have hsub : ∀ p ∈ ([(la, listOf ((tl ++ [(D', (ts, tts), (lvF cnt b nt ts, ta), (lvF cnt2 b2 nt2 ts, tz))]).map triV).toArray (nn + 1)), (x, instObj 122 dx), (dx, wsD w xt t n tn nt tt tp cnt.length k1 k2 k3 k4 k5), (tp, wsT tc b tb), (tc, wsC us), (x2, instObj 122 dx2), (dx2, wsD w xt2 t2 n2 tn2 nt2 tt2 tp2 cnt2.length k12 k22 k32 k42 k52), (tp2, wsT tc2 b2 tb2), (tc2, wsC us2)] ++ (tl ++ [(D', (ts, tts), (lvF cnt b nt ts, ta), (lvF cnt2 b2 nt2 ts, tz))]).map triO) ++ [(I, oI)], p ∈ triO (D', (ts, tts), (lvF cnt b nt ts, ta), (lvF cnt2 b2 nt2 ts, tz)) :: (la, listOf ((tl ++ [(D', (ts, tts), (lvF cnt b nt ts, ta), (lvF cnt2 b2 nt2 ts, tz))]).map triV).toArray (nn + 1)) :: ([(x, instObj 122 dx), (dx, wsD w xt t n tn nt tt tp cnt.length k1 k2 k3 k4 k5), (tp, wsT tc b tb), (tc, wsC us), (x2, instObj 122 dx2), (dx2, wsD w xt2 t2 n2 tn2 nt2 tt2 tp2 cnt2.length k12 k22 k32 k42 k52), (tp2, wsT tc2 b2 tb2), (tc2, wsC us2)] ++ own) := by
        intro p hp
        rw [hown]
        rcases List.mem_append.mp hp with hp | hp
        · rcases List.mem_append.mp hp with hp | hp
          · rcases List.mem_cons.mp hp with rfl | hp
            · exact List.mem_cons_of_mem _ List.mem_cons_self
            · exact List.mem_cons_of_mem _ (List.mem_cons_of_mem _ (List.mem_append_left _ hp))
          · rw [List.map_append] at hp
            rcases List.mem_append.mp hp with hp | hp
            · exact List.mem_cons_of_mem _ (List.mem_cons_of_mem _ (List.mem_append_right _ (List.mem_append_left _ hp)))
            · rw [List.mem_singleton.mp hp]; exact List.mem_cons_self
        · exact List.mem_cons_of_mem _ (List.mem_cons_of_mem _ (List.mem_append_right _ (List.mem_append_right _ hp)))
      have hID : @LT.lt Nat _ I D' := lD (I, oI) (List.mem_append_right _ (by rw [hown]; exact List.mem_append_right _ (List.mem_singleton.mpr rfl)))
      refine ⟨_, _, _, [(la, listOf ((tl ++ [(D', (ts, tts), (lvF cnt b nt ts, ta), (lvF cnt2 b2 nt2 ts, tz))]).map triV).toArray (nn + 1)), (x, instObj 122 dx), (dx, wsD w xt t n tn nt tt tp cnt.length k1 k2 k3 k4 k5), (tp, wsT tc b tb), (tc, wsC us), (x2, instObj 122 dx2), (dx2, wsD w xt2 t2 n2 tn2 nt2 tt2 tp2 cnt2.length k12 k22 k32 k42 k52), (tp2, wsT tc2 b2 tb2), (tc2, wsC us2)] ++ (tl ++ [(D', (ts, tts), (lvF cnt b nt ts, ta), (lvF cnt2 b2 nt2 ts, tz))]).map triO, rfl, kF, fun p hp => N7 p (hsub p hp), ?_, (tl ++ [(D', (ts, tts), (lvF cnt b nt ts, ta), (lvF cnt2 b2 nt2 ts, tz))], nn + 1), rfl, ?_, List.forall_mem_cons.mpr ⟨rfl, List.forall_mem_cons.mpr ⟨rfl, List.forall_mem_cons.mpr ⟨rfl, List.forall_mem_nil _⟩⟩⟩, ?_⟩
      · intro p hp
        rcases List.mem_append.mp hp with hp | hp
        · rcases List.mem_cons.mp hp with rfl | hp
          · exact hlaI
          · exact hoff p (List.mem_cons_of_mem _ (List.mem_append_left _ hp))
        · rw [List.map_append] at hp
          rcases List.mem_append.mp hp with hp | hp
          · exact hoff p (List.mem_append_right _ hp)
          · rw [List.mem_singleton.mp hp]; exact Nat.ne_of_gt hID
      · intro e he
        rcases List.mem_append.mp he with he | he
        · exact hla e he
        · rw [List.mem_singleton.mp he]; exact hDla
      · rw [List.map_append, hst, List.foldl_append, List.foldl_cons, List.foldl_nil, nlG, if_pos hc]
        rfl
    · rename_i hc
      with_reducible rename Fr _ _ _ _ => kF
      with_reducible rename News _ _ _ _ => kN
      refine ⟨_, _, _, [(la, listOf (tl.map triV).toArray nn), (x, instObj 122 dx), (dx, wsD w xt t n tn nt tt tp cnt.length k1 k2 k3 k4 k5), (tp, wsT tc b tb), (tc, wsC us), (x2, instObj 122 dx2), (dx2, wsD w xt2 t2 n2 tn2 nt2 tt2 tp2 cnt2.length k12 k22 k32 k42 k52), (tp2, wsT tc2 b2 tb2), (tc2, wsC us2)] ++ tl.map triO, rfl, kF, ?_, hoff, (tl, nn), rfl, hla, List.forall_mem_cons.mpr ⟨rfl, List.forall_mem_cons.mpr ⟨rfl, List.forall_mem_cons.mpr ⟨rfl, List.forall_mem_nil _⟩⟩⟩, ?_⟩
      · rw [List.append_assoc, ← hown]; exact kN
      · rw [List.foldl_append, ← hst, List.foldl_cons, List.foldl_nil, nlG, if_neg hc]
  · intro m₁ news₁ h2 tk2 hJJ F3 N3
    refine Classical.byContradiction fun hG => ?_
    obtain ⟨⟨tl, nn⟩, rfl, hla, hps, hst⟩ := hJJ
    refine hG ?_
    clear hG
    dsimp only at hla hps hst N3
    replace F3 := fr_ps0 hps F3
    dsimp only [kstB] at F3
    clear kN
    repeat' (first | (k_unfold; (try dsimp only)) | ((fail_if_success (with_reducible show InvEndN _ _ _ _ _ _ _)); (fail_if_success (with_reducible show KswEnd _ _ _ _ _ _ _ _ _ _ _ _)); (fail_if_success (with_reducible show LCg.CompEnd _ _ _ _ _ _ _ _ _ _ _ _ _ _)); (fail_if_success (with_reducible show LoopStepU _ _ _ _ _ _ _ _)); (fail_if_success (with_reducible show RL.TFEnd _ _ _ _ _ _ _)); (fail_if_success (with_reducible show RL.TFPost _ _ _ _ _ _ _ _ _)); (fail_if_success (with_reducible show wpAny _ _ (call (Value.ref 91) _) _ _ _)); (fail_if_success (with_reducible show wpAny _ _ (call (Value.ref 84) _) _ _ _)); (fail_if_success (with_reducible show wpAny _ _ (pyIter _) _ _ _)); first | walk1 | (dsimp only; walk1)))
    with_reducible rename Fr _ _ _ _ => kF
    with_reducible rename News _ _ _ _ => kN
    have hK := kp_back hg kF.keep (fun p hp => (kN p (List.mem_cons_of_mem _ (List.mem_append_left (tl.map triO) hp))).1) (fun p hp => (hled p hp).1)
    have hnl : ∀ a, @LE.le Nat _ la a → a ∉ ([(x, instObj 122 dx), (dx, wsD w xt t n tn nt tt tp cnt.length k1 k2 k3 k4 k5), (tp, wsT tc b tb), (tc, wsC us), (x2, instObj 122 dx2), (dx2, wsD w xt2 t2 n2 tn2 nt2 tt2 tp2 cnt2.length k12 k22 k32 k42 k52), (tp2, wsT tc2 b2 tb2), (tc2, wsC us2)] : List (Addr × Obj)).map (·.1) := by
      intro a ha hm
      obtain ⟨q1, q2, q3, q4, q5, q6, q7, q8⟩ := l1
      simp only [List.map_cons, List.map_nil, List.mem_cons, List.not_mem_nil, or_false] at hm
      rcases hm with rfl | rfl | rfl | rfl | rfl | rfl | rfl | rfl
      · exact absurd ha (Nat.not_le.mpr q1)
      · exact absurd ha (Nat.not_le.mpr q2)
      · exact absurd ha (Nat.not_le.mpr q3)
      · exact absurd ha (Nat.not_le.mpr q4)
      · exact absurd ha (Nat.not_le.mpr q5)
      · exact absurd ha (Nat.not_le.mpr q6)
      · exact absurd ha (Nat.not_le.mpr q7)
      · exact absurd ha (Nat.not_le.mpr q8)
    have hnone : ∀ a, @LE.le Nat _ la a → g.get? a = none → s.heap.get? a = none := fun a ha e => by
      cases q : s.heap.get? a with
      | none => rfl
      | some o' => have := hg a o' (hnl a ha) q; rw [e] at this; cases this
    have hm := kN _ List.mem_cons_self
    refine h h2 _ la tl nn hK (hnone la (Nat.le_refl _) hm.2.2) (fun e he => ?_) hm.1 hst
    have z := kN (triO e) (List.mem_append_right _ (List.mem_map_of_mem he))
    exact ⟨hnone e.1 (Nat.le_of_lt (hla e he)) z.2.2, z.1⟩
end RL
end
section
open PySem PySem.W PyProof.Rows PySem.Calls PySem.Spec
namespace RL
abbrev Kb (L : Addr) (h h' : Heap) : Prop := ∀ b o, b ≠ L → h.get? b = some o → h'.get? b = some o
section
variable {prog : Program} {w : World} {A : Around} {E : Value → Shared → Prop} {s : Shared} {h₀ : Heap} {L : Addr} {m : Str → Option Value} {env : Env}
/-- What the source of «y = [elt for x, x₂ in enumerate(items)]» must leave. -/
def EnSrc (prog : Program) (w : World) (A : Around) (h₀ : Heap) (L : Addr) (m : Str → Option Value) (env : Env) (elt : Expr) (x x₂ y : Str) (scope : Scope) (cl : List (Str × Addr)) (Q : Flow → Shared → Prop) (xv : Value) (s₁ : Shared) : Prop :=
  ∃ (e it l : Addr) (items : Array Value) (news : List (Addr × Obj)) (P : Nat → Value → Prop), xv = .ref e ∧ A.handled = none ∧ IsEnum s₁.heap e it 0 .none ∧ s₁.heap.IsListIter it l 0 ∧ s₁.heap.IsList l items ∧ items.size ≤ sizeLine ∧
    Fr h₀ L s₁.heap m ∧ News h₀ L s₁.heap news ∧ (h₀.get? e = none ∧ h₀.get? it = none) ∧ (L ≠ e ∧ L ≠ it) ∧ (∀ p ∈ news, p.1 ≠ e ∧ p.1 ≠ it) ∧ (e ≠ it ∧ l ≠ e ∧ l ≠ it) ∧
    (∀ (i : Nat) (v : Value), items[i]? = some v → ∀ (t : Tok) (C : Addr) (m₂ : Str → Option Value) (h : Heap) (tk : Tok) (E' : Value → Shared → Prop), h₀.objs.size ≤ C → L < C → (∀ p ∈ news, p.1 < C) → ∀ oC, h.get? C = some oC → LCg.NsObj oC m₂ → m₂ x = some (.int i t) → m₂ x₂ = some v →
      Fr h₀ L h m → News h₀ L h news →
      wpAny (model prog w) A (eval elt (compEnvC scope cl C env)) (fun y s' => ∃ h' tk', s' = { s₁ with heap := h', toks := tk' } ∧ Fr h₀ L h' m ∧ Kb L h h' ∧ P i y) E' { s₁ with heap := h, toks := tk }) ∧
    (∀ (D : Addr) (h' : Heap) (tk' : Tok) (ys : List Value), Fr h₀ L h' (fun z => if z = y then some (.ref D) else m z) → News h₀ L h' ((D, LCg.lst ys) :: news) → (∀ p ∈ news, p.1 ≠ D) → ys.length = items.size → (∀ i v, ys[i]? = some v → P i v) → Q .next { s₁ with heap := h', toks := tk' })

theorem lc_enum {elt iter : Expr} {x x₂ y : Str} {px px₂ tp py : Pos} {tk} {scope : Scope} {cl : List (Str × Addr)} {pos spos : Pos} {Q : Flow → Shared → Prop} (hLe : env.locals = L)
    (hsw : swapsWith (.ListComp elt [⟨.Tuple [.Name x px, .Name x₂ px₂] tk tp, iter, [], 0⟩] scope pos) (some (.Name y py)) spos.line env = pure true)
    (hclos : closureFor scope env = pure cl) (hcell : ∀ z ∈ scope.names, z.2 ≠ .cell) (hkind : scope.kind = .function)
    (hnames : ∀ z ∈ scope.names, z.2 = .local → scope.names.lookup z.1 = some .local) (hx : scope.names.lookup x = some .local) (hx₂ : scope.names.lookup x₂ = some .local) (hxx : x ≠ x₂)
    (hy : env.kindOf y = some .local) (hp : (env.scope.kind == .class || (env.scope.kind == .module && env.locals != env.globals)) = false)
    (h : wpAny (model prog w) A (eval iter env) (EnSrc prog w A h₀ L m env elt x x₂ y scope cl Q) E s)
    (hs : ∀ x, foldedSetIterable iter env x = pure x := by intro _; rfl) :
    wpAny (model prog w) A (exec (.Assign [.Name y py] (.ListComp elt [⟨.Tuple [.Name x px, .Name x₂ px₂] tk tp, iter, [], 0⟩] scope pos) spos) env) Q E s := by
  subst hLe
  rw [exec_Assign_Name_used _ _ _ _ hsw]
  refine wpAny_bind (wpAny_standAt (wpAny_bind ?_))
  show wpAny _ A (do let _ ← comprehension (.ListComp elt [⟨.Tuple [.Name x px, .Name x₂ px₂] tk tp, iter, [], 0⟩] scope pos) scope env _ (newList []) false (eval iter env) (some (assign (.Name y py) env))) _ _ s
  refine wpAny_bind (wpAny_mono (wpAny_comprehension_free (use := some (assign (.Name y py) env)) (Q := fun _ s' => Q .next s') rfl hs hclos hkind hnames
    (wpAny_mono h (fun xv s₁ h₁ => ?_) fun _ _ e => e)) (fun _ s' hq => wpAny_pure (wpAny_pure hq)) fun _ _ e => e)
  refine Classical.byContradiction fun hG => ?_
  obtain ⟨e, it, l, items, news, P, exv, hh, hE, hI, hl, hsz, F, N, ⟨he₀, hit₀⟩, ⟨hLe, hLi⟩, off, ⟨hei, hle, hli⟩, Helt, Hend⟩ := h₁
  refine hG ?_
  clear hG
  subst exv
  have W := WalksT.enumerate (prog := prog) (w := w) (A := A) hh e it l hei hle hli items
  have hst : (∃ old, IsEnum s₁.heap e it ((0 : Nat) : Int) old) ∧ s₁.heap.IsListIter it l 0 ∧ s₁.heap.IsList l items := ⟨⟨_, hE⟩, hI, hl⟩
  refine W.self 0 s₁ _ _ hst ?_
  refine wpAny_newObj_type (wpAny_newFunctionEnv hcell (by intro y hy; simp at hy) (fun h₁ hns₁ hsb₁ => ?_) hkind)
  dsimp only at hns₁ hsb₁ ⊢
  generalize hH2 : s₁.heap.push { cls := .type "list", dict := none, data := .seq ([] : List Value).toArray } = H2 at hns₁ hsb₁ ⊢
  have hC : H2.objs.size = s₁.heap.objs.size + 1 := by rw [← hH2, Heap.size_push]
  generalize hCc : H2.objs.size = C at hC hns₁ hsb₁ ⊢
  generalize hDd : s₁.heap.objs.size = D at hC ⊢
  subst hC
  have fresh₀ : ∀ a, D ≤ a → h₀.get? a = none := fun a ha => by
    cases e : h₀.get? a with
    | none => rfl
    | some o' => have := Heap.lt_size (F.keep a o' e); rw [hDd] at this; exact absurd this (Nat.not_lt.mpr ha)
  have old : ∀ b o, s₁.heap.get? b = some o → h₁.get? b = some o := fun b o e => hsb₁.extBut b o (by have := Heap.lt_size e; rw [hDd] at this; exact Nat.ne_of_lt (Nat.lt_succ_of_lt this)) (Heap.get?_push_of_some _ (hH2 ▸ Heap.get?_push_of_some _ e))
  have hacc : h₁.get? D = some (LCg.lst []) := hsb₁.extBut _ _ (Nat.ne_of_lt (Nat.lt_succ_self _)) (Heap.get?_push_of_some _ (hH2 ▸ hDd ▸ Heap.get?_push_size _ rfl))
  have hLD : env.locals < D := hDd ▸ F.ns.lt
  have heD : e < D := hDd ▸ Heap.lt_size hE
  have hiD : it < D := by obtain ⟨_, x, _⟩ := hI; exact hDd ▸ Heap.lt_size x
  have hlD : l < D := by obtain ⟨_, x, _⟩ := hl; exact hDd ▸ Heap.lt_size x
  have hlL : l ≠ env.locals := by
    rintro rfl
    obtain ⟨o, ho, hc, n, hd⟩ := hl
    obtain ⟨oL, es, ep, hoL, hdL, _⟩ := F.ns
    rw [ho] at hoL
    cases hoL
    rw [hd] at hdL
    cases hdL
  have hnD : ∀ p ∈ news, p.1 < D := fun p hp => hDd ▸ Heap.lt_size (N p hp).1
  have loop : ∀ s₃ : Shared, s₃ = { s₁ with heap := h₁, toks := s₁.toks + ([] : List (Str × Value)).length } →
      codeAny (model prog w) A (.compLoop (.ListComp elt [⟨.Tuple [.Name x px, .Name x₂ px₂] tk tp, iter, [], 0⟩] scope pos) 0 (.ref e) (.ref D) (compEnvC scope cl (D + 1) env))
        (compPost (model prog w) A E (some (assign (.Name y py) env)) (fun _ s' => Q .next s') (.ref D) (D + 1)) s₃ := by
    rintro s₃ rfl
    refine LCp.codeAny_compLoop_pair
      (fun k s' => ∃ h' tk i ys m', s' = { s₁ with heap := h', toks := tk } ∧ i ≤ items.size ∧ k = items.size + 1 - i ∧ ys.length = i ∧ ((∃ old, IsEnum h' e it i old) ∧ h'.IsListIter it l i ∧ h'.IsList l items) ∧ Fr h₀ env.locals h' m ∧ h'.Ns (D + 1) m' ∧ News h₀ env.locals h' ((D, LCg.lst ys) :: news) ∧ (∀ i v, ys[i]? = some v → P i v)) ?_ (items.size + 1)
      ⟨h₁, _, 0, [], _, rfl, Nat.zero_le _, rfl, rfl, W.frame _ _ _ hst fun b _ o e => old b o e, F.keeps old, hns₁, fun p hp => ?_, fun i v hv => by simp at hv⟩
    · intro k s' hJJ
      refine Classical.byContradiction fun hG => ?_
      obtain ⟨h', tk, i, ys, m', es', hi, ek, hyl, hst', F', hn', N', hP'⟩ := hJJ
      refine hG ?_
      clear hG
      subst es' ek
      by_cases hlt : i < items.size
      · refine W.item i _ _ _ hlt hst' fun T vals h₂ tk₂ hPv hTs hT hmid hk₂ => ?_
        have hTw := W.apart _ _ _ hmid
        refine W.go _ _ _ i T _ _ _ hmid fun h₃ hst₃ hk₃ => ?_
        have k23 : ∀ b o, b ∉ [e, it] → h'.get? b = some o → h₃.get? b = some o := fun b o hb ex => hk₃ b o hb (hk₂ b o hb ex)
        refine Classical.byContradiction fun hG => ?_
        obtain ⟨t, v, hv, rfl⟩ := hPv
        obtain ⟨oT, eT, hTc, nT, hTd⟩ := hT
        refine hG ?_
        clear hG
        have hT₃ : IsTup h₃ T #[.int i t, v] := ⟨oT, hk₃ _ _ hTw eT, hTc, nT, hTd⟩
        refine assign_Tuple_tuple hh hT₃ rfl rfl fun h₅ he => ?_
        have he' : ∀ b o, h₃.get? b = some o → h₅.get? b = some o := fun b o e => he b o (Nat.ne_of_lt (Heap.lt_size e)) e
        have nw : ∀ b, D ≤ b → b ∉ [e, it] := fun b hb hm => by
          rcases List.mem_cons.mp hm with rfl | hm
          · exact absurd heD (Nat.not_lt.mpr hb)
          · rw [List.mem_singleton.mp hm] at hb; exact absurd hiD (Nat.not_lt.mpr hb)
        have hn₅ : h₅.Ns (D + 1) m' := (hn'.at' fun o e => k23 _ o (nw _ (Nat.le_succ _)) e).at' fun o e => he' _ o e
        refine assignInOrder_cons (wpAny_assign_Name (wpAny_storeName_local (lookup_relabel_local hx) hn₅ (fun h₆ hn₆ hs₆ => ?_) (by simp [compEnvC, relabel, hkind])))
        refine assignInOrder_cons (wpAny_assign_Name (wpAny_storeName_local (lookup_relabel_local hx₂) hn₆ (fun h₇ hn₇ hs₇ => ?_) (by simp [compEnvC, relabel, hkind])))
        refine assignInOrder_nil ?_
        have k37 : ∀ b o, b ≠ D + 1 → h₃.get? b = some o → h₇.get? b = some o := fun b o hb e => hs₇.extBut b o hb (hs₆.extBut b o hb (he' b o e))
        have k7 : ∀ b o, b ∉ [e, it] → b ≠ D + 1 → h'.get? b = some o → h₇.get? b = some o := fun b o hb hb' ex => k37 b o hb' (k23 b o hb ex)
        have L1 : env.locals ∉ [e, it] := by simp [hLe, hLi]
        have L2 : env.locals ≠ D + 1 := Nat.ne_of_lt (Nat.lt_succ_of_lt hLD)
        have F₇ : Fr h₀ env.locals h₇ m := ⟨F'.ns.at' fun o e => k7 _ o L1 L2 e, fun b o eb => k7 b o (by
            simp only [List.mem_cons, List.not_mem_nil, or_false, not_or]
            exact ⟨fun q => (by rw [q, he₀] at eb; cases eb), fun q => (by rw [q, hit₀] at eb; cases eb)⟩) (fun q => by rw [q, fresh₀ _ (Nat.le_succ _)] at eb; cases eb) (F'.keep b o eb), F'.above⟩
        have N₇ : News h₀ env.locals h₇ ((D, LCg.lst ys) :: news) := fun p hp => by
          refine ⟨k7 _ _ ?_ ?_ (N' p hp).1, (N' p hp).2⟩
          · rcases List.mem_cons.mp hp with rfl | hp
            · exact nw _ (Nat.le_refl _)
            · have := off p hp; simp [this]
          · rcases List.mem_cons.mp hp with rfl | hp
            · exact Nat.ne_of_lt (Nat.lt_succ_self _)
            · exact Nat.ne_of_lt (Nat.lt_succ_of_lt (hnD p hp))
        have hst₇ : (∃ old, IsEnum h₇ e it ((i + 1 : Nat) : Int) old) ∧ h₇.IsListIter it l (i + 1) ∧ h₇.IsList l items := W.frame _ _ _ hst₃ fun b hb o ex => k37 b o (by
          rintro rfl
          simp only [List.mem_cons, List.not_mem_nil, or_false] at hb
          rcases hb with hb | hb | hb
          · rw [← hb] at heD; exact absurd heD (Nat.not_lt.mpr (Nat.le_succ _))
          · rw [← hb] at hiD; exact absurd hiD (Nat.not_lt.mpr (Nat.le_succ _))
          · rw [← hb] at hlD; exact absurd hlD (Nat.not_lt.mpr (Nat.le_succ _))) ex
        refine Classical.byContradiction fun hG => ?_
        obtain ⟨oC, heC, hoC⟩ := LCg.ns_obj hn₇
        refine hG ?_
        clear hG
        refine wpAny_mono (Helt i v hv t (D + 1) _ h₇ _ _ (Nat.le_trans F.above (Nat.le_of_lt (Nat.lt_succ_of_lt hLD))) (Nat.lt_succ_of_lt hLD) (fun p hp => Nat.lt_succ_of_lt (hnD p hp)) oC heC hoC (by simp [hxx]) (by simp) F₇ (fun p hp => N₇ p (List.mem_cons_of_mem _ hp))) (fun yv s₄ h₄ => ?_) fun _ _ e => e
        obtain ⟨h₈, tk₈, rfl, F₈, hk₈, hPy⟩ := h₄
        have hn₈ := hn₇.at' fun o ex => hk₈ _ o (Ne.symm L2) ex
        have zD : h₈.get? D = some (LCg.lst ys) := hk₈ _ _ (Nat.ne_of_gt hLD) (N₇ _ List.mem_cons_self).1
        refine append_at (hsz := by show ys.toArray.size ≤ sizeLine; rw [List.size_toArray, hyl]; exact Nat.le_trans hi hsz) zD fun h₉ hs₉ hD₉ => ?_
        have k9 : ∀ b o, b < D → b ≠ env.locals → h₇.get? b = some o → h₉.get? b = some o := fun b o hb hbL ex => hs₉.extBut b o (Nat.ne_of_lt hb) (hk₈ b o hbL ex)
        have hD₀ : h₀.get? D = none := fresh₀ _ (Nat.le_refl _)
        refine ⟨items.size + 1 - (i + 1), by omega, h₉, tk₈, i + 1, ys ++ [yv], _, rfl, hlt, rfl, by rw [List.length_append, List.length_singleton, hyl], W.frame _ _ _ hst₇ fun b hb o ex => k9 b o ?_ ?_ ex,
          F₈.change hs₉ (Nat.ne_of_gt hLD) hD₀, hn₈.sameBut hs₉ (Nat.ne_of_gt (Nat.lt_succ_self _)), fun p hp => ?_, ?_⟩
        · simp only [List.mem_cons, List.not_mem_nil, or_false] at hb
          rcases hb with hb | hb | hb
          · rw [hb]; exact heD
          · rw [hb]; exact hiD
          · rw [hb]; exact hlD
        · simp only [List.mem_cons, List.not_mem_nil, or_false] at hb
          rcases hb with hb | hb | hb
          · rw [hb]; exact Ne.symm hLe
          · rw [hb]; exact Ne.symm hLi
          · rw [hb]; exact hlL
        · rcases List.mem_cons.mp hp with rfl | hp
          · exact ⟨hD₉.trans (congrArg some (LCg.lst_snoc ys yv)), (N₇ _ List.mem_cons_self).2.1, hD₀⟩
          · exact ⟨k9 _ _ (hnD p hp) (N p hp).2.1 (N₇ _ (List.mem_cons_of_mem _ hp)).1, (N₇ _ (List.mem_cons_of_mem _ hp)).2⟩
        · intro j u hu
          rw [List.getElem?_append] at hu
          split at hu
          · exact hP' j u hu
          · rename_i hj
            have hj' : j = i := by
              rcases Nat.eq_or_lt_of_le (Nat.not_lt.mp hj) with q | q
              · rw [hyl] at q; exact q.symm
              · rw [List.getElem?_eq_none (by simp; omega)] at hu; cases hu
            subst hj'
            rw [hyl, Nat.sub_self] at hu
            simp at hu
            exact hu ▸ hPy
      · obtain rfl : i = items.size := Nat.le_antisymm hi (Nat.not_lt.mp hlt)
        refine W.done _ _ _ hst' fun h₂ tk₂ hk₂ => ?_
        have nw : ∀ b, D ≤ b → b ∉ [e, it] := fun b hb hm => by
          rcases List.mem_cons.mp hm with rfl | hm
          · exact absurd heD (Nat.not_lt.mpr hb)
          · rw [List.mem_singleton.mp hm] at hb; exact absurd hiD (Nat.not_lt.mpr hb)
        have L1 : env.locals ∉ [e, it] := by simp [hLe, hLi]
        have F₂ : Fr h₀ env.locals h₂ m := ⟨F'.ns.at' fun o e => hk₂ _ o L1 e, fun b o eb => hk₂ b o (by
            simp only [List.mem_cons, List.not_mem_nil, or_false, not_or]
            exact ⟨fun q => (by rw [q, he₀] at eb; cases eb), fun q => (by rw [q, hit₀] at eb; cases eb)⟩) (F'.keep b o eb), F'.above⟩
        have N₂ : News h₀ env.locals h₂ ((D, LCg.lst ys) :: news) := fun p hp => by
          refine ⟨hk₂ _ _ ?_ (N' p hp).1, (N' p hp).2⟩
          rcases List.mem_cons.mp hp with rfl | hp
          · exact nw _ (Nat.le_refl _)
          · have := off p hp; simp [this]
        have hn₂ : h₂.Ns (D + 1) m' := hn'.at' fun o e => hk₂ _ o (nw _ (Nat.le_succ _)) e
        show wpAny _ A (assign (.Name y py) env (.ref D)) _ _ _
        refine wpAny_assign_Name (wpAny_storeName_local hy F₂.ns (fun h₃ hn₃ hs₃ => ?_) hp)
        have hL₀ : h₀.get? env.locals = none := Heap.get?_none_of_le F.above
        have F₃ : Fr h₀ env.locals h₃ (fun z => if z = y then some (.ref D) else m z) := ⟨hn₃, fun b o e => hs₃.extBut b o (fun q => by rw [q, hL₀] at e; cases e) (F₂.keep b o e), F₂.above⟩
        refine ⟨m', hn₂.sameBut hs₃ (Nat.ne_of_gt (Nat.lt_succ_of_lt hLD)), fun h'' hs'' => Hend D h'' _ ys (F₃.change hs'' (Nat.ne_of_gt (Nat.lt_succ_of_lt hLD)) (fresh₀ _ (Nat.le_succ _))) (fun p hp => ?_) (fun p hp => Nat.ne_of_lt (hnD p hp)) hyl hP'⟩
        have z : h₃.get? p.1 = some p.2 := hs₃.extBut _ _ (N₂ p hp).2.1 (N₂ p hp).1
        refine ⟨hs''.extBut _ _ ?_ z, (N₂ p hp).2⟩
        rcases List.mem_cons.mp hp with rfl | hp
        · exact Nat.ne_of_lt (Nat.lt_succ_self _)
        · exact Nat.ne_of_lt (Nat.lt_succ_of_lt (hnD p hp))
    · rcases List.mem_cons.mp hp with rfl | hp
      · exact ⟨hacc, Nat.ne_of_gt hLD, fresh₀ _ (Nat.le_refl _)⟩
      · exact ⟨old _ _ (N p hp).1, (N p hp).2⟩
  exact codeAny_compStart_list (loop _ rfl) (W.self 0 _ _ _ (W.frame _ _ _ hst fun b _ o e => old b o e) (loop _ rfl))

theorem led_below {α : Type} {t : Sem α} {R : α → Heap → Prop} {h : Heap} {tk : Tok} (F : Fr h₀ L h m)
    (H : ∀ led, News h₀ L h led → wpAny (model prog w) A t (fun y s' => ∃ h' tk', s' = { s with heap := h', toks := tk' } ∧ Fr h₀ L h' m ∧ News h₀ L h' led ∧ R y h') E { s with heap := h, toks := tk }) :
    wpAny (model prog w) A t (fun y s' => ∃ h' tk', s' = { s with heap := h', toks := tk' } ∧ Fr h₀ L h' m ∧ Kb L h h' ∧ R y h') E { s with heap := h, toks := tk } := by
  let led : List (Addr × Obj) := (List.range h.objs.size).filterMap fun b => match h.get? b with
    | some o => if b ≠ L ∧ h₀.get? b = none then some (b, o) else none
    | none => none
  have hm : ∀ b o, (b, o) ∈ led ↔ (h.get? b = some o ∧ b ≠ L ∧ h₀.get? b = none) := by
    intro b o
    constructor
    · intro hb
      obtain ⟨c, _, e⟩ := List.mem_filterMap.mp hb
      split at e
      · rename_i o' ho'
        split at e
        · rename_i hc
          cases e
          exact ⟨ho', hc⟩
        · cases e
      · cases e
    · rintro ⟨ho, hc⟩
      refine List.mem_filterMap.mpr ⟨b, List.mem_range.mpr (Heap.lt_size ho), ?_⟩
      simp only [ho]
      rw [if_pos hc]
  refine wpAny_mono (H led fun p hp => (hm p.1 p.2).mp hp) (fun y s' hs => ?_) fun _ _ e => e
  obtain ⟨h', tk', rfl, F', N', r⟩ := hs
  refine ⟨h', tk', rfl, F', fun b o hbL hb => ?_, r⟩
  cases e : h₀.get? b with
  | none => exact (N' (b, o) ((hm b o).mpr ⟨hb, hbL, e⟩)).1
  | some o' =>
    have e1 := F.keep b o' e
    rw [hb] at e1
    cases e1
    exact F'.keep b o e

theorem newEnvCell {M : Model} {scope : Scope} {globals : Addr} {cl : List (Str × Addr)} {qual x : Str} {env : Env} {Q : Env → Shared → Prop}
    (hcf : ∀ n, cellsFrom n scope.names cl = (x, n) :: cl) (hpc : ∀ h, pushCells h scope.names = h.push { cls := .type "cell", data := .cell none })
    (h : Q (newEnv scope s.heap.objs.size globals ((x, s.heap.objs.size + 1) :: cl) qual none .none (some env) builtinsNs) { s with heap := (s.heap.push { cls := .type "dict", data := .dict #[] }).push { cls := .type "cell", data := .cell none } }) :
    wpAny M A (newFunctionEnv scope globals cl [] qual none .none (some env)) Q E s := by
  simp only [newFunctionEnv, Option.isSome_some, if_true]
  refine wpAny_bind (wpAny_alloc ?_)
  refine wpAny_bind (wpAny_layCells _ (fun name kind cells => by cases hkc : kind == NameKind.cell <;> simp [hkc]) _ _ _ _ ?_)
  rw [hcf, hpc]
  rw [show ({ s with heap := s.heap.push { cls := .type "dict", data := .dict #[] } } : Shared).heap.objs.size = s.heap.objs.size + 1 from Heap.size_push ..]
  rw [List.forIn_nil]
  exact wpAny_bind (wpAny_pure (wpAny_pure h))

def CellElt (prog : Program) (w : World) (A : Around) (h₀ : Heap) (L : Addr) (m : Str → Option Value) (env : Env) (elt : Expr) (x : Str) (scope : Scope) (cl : List (Str × Addr)) (news : List (Addr × Obj)) (P Pe : Nat → Value → Prop) (s₁ : Shared) : Prop :=
  ∀ (i : Nat) (v : Value), P i v → ∀ (C c : Addr) (h : Heap) (tk : Tok) (E' : Value → Shared → Prop) (oC oc : Obj) (m₂ : Str → Option Value), h₀.objs.size ≤ C → L < C → C < c → (∀ p ∈ news, p.1 < C) → h.get? C = some oC → LCg.NsObj oC m₂ → h.get? c = some oc → oc.data = .cell (some v) →
      Fr h₀ L h m → News h₀ L h news →
      wpAny (model prog w) A (eval elt (compEnvC scope ((x, c) :: cl) C env)) (fun y s' => ∃ h' tk', s' = { s₁ with heap := h', toks := tk' } ∧ Fr h₀ L h' m ∧ Kb L h h' ∧ Pe i y) E' { s₁ with heap := h, toks := tk }

theorem block_cell {elt iter : Expr} {x : Str} {px : Pos} {scope : Scope} {cl : List (Str × Addr)} {pos : Pos} {s₂ : Shared} {I : Addr} {fp : List Addr} {n : Nat} {P Pe : Nat → Value → Prop} {St : Nat → Heap → Prop} {news : List (Addr × Obj)} {RR : Value → Addr → Result → Shared → Prop}
    (W : Walks prog w A I fp [I] n P St) (hsz : n ≤ sizeLine)
    (hcf : ∀ n, cellsFrom n scope.names cl = (x, n) :: cl) (hpc : ∀ h, pushCells h scope.names = h.push { cls := .type "cell", data := .cell none })
    (hkind : scope.kind = .function) (hx : (relabel scope env).names.lookup x = some .cell) (hst : St 0 s₂.heap) (hfp : ∀ b ∈ fp, b < s₂.heap.objs.size) (hfL : ∀ b ∈ fp, b ≠ L)
    (F : Fr h₀ L s₂.heap m) (N : News h₀ L s₂.heap news) (hI₀ : h₀.get? I = none) (off : ∀ p ∈ news, p.1 ≠ I)
    (Helt : CellElt prog w A h₀ L m env elt x scope cl news P Pe s₂)
    (hRR : ∀ D C h tk m' ys, Fr h₀ L h m → News h₀ L h ((D, LCg.lst ys) :: news) → (∀ p ∈ news, p.1 ≠ D) → h.Ns C m' → h₀.get? C = none → C ≠ L → C ≠ D → (∀ p ∈ news, p.1 ≠ C) → ys.length = n → (∀ i v, ys[i]? = some v → Pe i v) → RR (.ref D) C (.ok .next) { s₂ with heap := h, toks := tk }) :
    wpAny (model prog w) A (newList []) (fun acc s₃ => wpAny (model prog w) A (newFunctionEnv scope env.globals cl [] env.qual none .none (some env)) (fun cenv s₄ =>
      codeAny (model prog w) A (.compStart (.ListComp elt [⟨.Name x px, iter, [], 0⟩] scope pos) 0 (.ref I) acc { cenv with scope := relabel scope env }) (RR acc cenv.locals) s₄) E s₃) E s₂ := by
  refine wpAny_newObj_type (newEnvCell hcf hpc ?_)
  dsimp only
  generalize hH2 : s₂.heap.push { cls := .type "list", dict := none, data := .seq ([] : List Value).toArray } = H2
  have hC : H2.objs.size = s₂.heap.objs.size + 1 := by rw [← hH2, Heap.size_push]
  generalize hH4 : (H2.push { cls := .type "dict", data := .dict #[] }).push { cls := .type "cell", data := .cell none } = h₁
  have hn₁ : h₁.Ns H2.objs.size (fun _ => none) := by
    rw [← hH4]
    exact (Heap.Ns.new H2 (.type "dict")).keeps fun _ _ e => Heap.get?_push_of_some _ e
  have hc₁ : h₁.get? (H2.objs.size + 1) = some { cls := .type "cell", data := .cell none } := by
    rw [← hH4, ← Heap.size_push H2 { cls := .type "dict", data := .dict #[] }]
    exact Heap.get?_push_size _ rfl
  generalize hCc : H2.objs.size = C at hC hn₁ hc₁ ⊢
  generalize hDd : s₂.heap.objs.size = D at hC hfp ⊢
  subst hC
  have fresh₀ : ∀ a, D ≤ a → h₀.get? a = none := fun a ha => by
    cases e : h₀.get? a with
    | none => rfl
    | some o' => have := Heap.lt_size (F.keep a o' e); rw [hDd] at this; exact absurd this (Nat.not_lt.mpr ha)
  have old : ∀ b o, s₂.heap.get? b = some o → h₁.get? b = some o := fun b o e => by
    rw [← hH4]
    exact Heap.get?_push_of_some _ (Heap.get?_push_of_some _ (hH2 ▸ Heap.get?_push_of_some _ e))
  have hacc : h₁.get? D = some (LCg.lst []) := by
    rw [← hH4]
    exact Heap.get?_push_of_some _ (Heap.get?_push_of_some _ (hH2 ▸ hDd ▸ Heap.get?_push_size _ rfl))
  have hLD : L < D := hDd ▸ F.ns.lt
  have hIf : I ∈ fp := W.sub I (List.mem_singleton.mpr rfl)
  have hID : I < D := hfp I hIf
  have hnD : ∀ p ∈ news, p.1 < D := fun p hp => hDd ▸ Heap.lt_size (N p hp).1
  have hLI : L ≠ I := Ne.symm (hfL I hIf)
  have loop : ∀ s₃ : Shared, s₃ = { s₂ with heap := h₁ } →
      codeAny (model prog w) A (.compLoop (.ListComp elt [⟨.Name x px, iter, [], 0⟩] scope pos) 0 (.ref I) (.ref D) (compEnvC scope ((x, D + 1 + 1) :: cl) (D + 1) env))
        (RR (.ref D) (D + 1)) s₃ := by
    rintro s₃ rfl
    refine codeAny_compLoop_list
      (fun k s' => ∃ h' tk i ys m' oc vc, s' = { s₂ with heap := h', toks := tk } ∧ i ≤ n ∧ k = n + 1 - i ∧ ys.length = i ∧ St i h' ∧ Fr h₀ L h' m ∧ h'.Ns (D + 1) m' ∧ (h'.get? (D + 1 + 1) = some oc ∧ oc.data = .cell vc) ∧ News h₀ L h' ((D, LCg.lst ys) :: news) ∧ (∀ i v, ys[i]? = some v → Pe i v)) ?_ (n + 1)
      ⟨h₁, s₂.toks, 0, [], _, _, _, rfl, Nat.zero_le _, rfl, rfl, W.frame _ _ _ hst fun b _ o e => old b o e, F.keeps old, hn₁, ⟨hc₁, rfl⟩, fun p hp => ?_, fun i v hv => by simp at hv⟩
    · intro k s' hJJ
      refine Classical.byContradiction fun hG => ?_
      obtain ⟨h', tk, i, ys, m', oc, vc, es', hi, ek, hyl, hst', F', hn', ⟨hc', hd'⟩, N', hP'⟩ := hJJ
      refine hG ?_
      clear hG
      subst es' ek
      have nw : ∀ b, D ≤ b → b ∉ [I] := fun b hb hm => by
        rw [List.mem_singleton.mp hm] at hb; exact absurd hID (Nat.not_lt.mpr hb)
      by_cases hlt : i < n
      · refine W.item i _ _ _ hlt hst' fun v h₂ tk₂ hPv hst₂ hk₂ => ?_
        have hc₂ : h₂.IsCell (D + 1 + 1) vc := ⟨oc, hk₂ _ _ (nw _ (Nat.le_succ_of_le (Nat.le_succ _))) hc', hd'⟩
        refine wpAny_assign_Name (wpAny_storeName_cell (by simp [compEnvC, relabel, hkind]) hx (by simp [compEnvC]) hc₂ fun h₇ hc₇ hs₇ => ?_)
        obtain ⟨oc₇, ec₇, dc₇⟩ := hc₇
        have k7 : ∀ b o, b ≠ I → b ≠ D + 1 + 1 → h'.get? b = some o → h₇.get? b = some o := fun b o hb hb' ex => hs₇.extBut b o hb' (hk₂ b o (by simpa using hb) ex)
        have lt2 : ∀ b, b < D → b ≠ D + 1 + 1 := fun b hb => Nat.ne_of_lt (Nat.lt_succ_of_lt (Nat.lt_succ_of_lt hb))
        have F₇ : Fr h₀ L h₇ m := (LCg.fr_but F' hk₂ hLI hI₀).change hs₇ (Ne.symm (lt2 _ hLD)) (fresh₀ _ (Nat.le_succ_of_le (Nat.le_succ _)))
        have hn₇ : h₇.Ns (D + 1) m' := hn'.at' fun o e => k7 _ o (Ne.symm (Nat.ne_of_lt (Nat.lt_succ_of_lt hID))) (Nat.ne_of_lt (Nat.lt_succ_self _)) e
        have N₇ : News h₀ L h₇ ((D, LCg.lst ys) :: news) := fun p hp => by
          refine ⟨k7 _ _ ?_ ?_ (N' p hp).1, (N' p hp).2⟩
          · rcases List.mem_cons.mp hp with rfl | hp
            · exact Nat.ne_of_gt hID
            · exact off p hp
          · rcases List.mem_cons.mp hp with rfl | hp
            · exact Nat.ne_of_lt (Nat.lt_succ_of_lt (Nat.lt_succ_self _))
            · exact lt2 _ (hnD p hp)
        have hst₇ : St (i + 1) h₇ := W.frame _ _ _ hst₂ fun b hb o ex => hs₇.extBut b o (lt2 _ (hfp b hb)) ex
        refine Classical.byContradiction fun hG => ?_
        obtain ⟨oC, heC, hoC⟩ := LCg.ns_obj hn₇
        refine hG ?_
        clear hG
        refine wpAny_mono (Helt i v hPv (D + 1) (D + 1 + 1) h₇ _ _ oC oc₇ _ (Nat.le_trans F.above (Nat.le_of_lt (Nat.lt_succ_of_lt hLD))) (Nat.lt_succ_of_lt hLD) (Nat.lt_succ_self _) (fun p hp => Nat.lt_succ_of_lt (hnD p hp)) heC hoC ec₇ dc₇ F₇ (fun p hp => N₇ p (List.mem_cons_of_mem _ hp))) (fun yv s₄ h₄ => ?_) fun _ _ e => e
        obtain ⟨h₈, tk₈, rfl, F₈, hk₈, hPy⟩ := h₄
        have hn₈ := hn₇.at' fun o ex => hk₈ _ o (Nat.ne_of_gt (Nat.lt_succ_of_lt hLD)) ex
        have zD : h₈.get? D = some (LCg.lst ys) := hk₈ _ _ (Nat.ne_of_gt hLD) (N₇ _ List.mem_cons_self).1
        refine append_at (hsz := by show ys.toArray.size ≤ sizeLine; rw [List.size_toArray, hyl]; exact Nat.le_trans hi hsz) zD fun h₉ hs₉ hD₉ => ?_
        have k9 : ∀ b o, b ≠ D → b ≠ L → h₇.get? b = some o → h₉.get? b = some o := fun b o hb hbL ex => hs₉.extBut b o hb (hk₈ b o hbL ex)
        have hD₀ : h₀.get? D = none := fresh₀ _ (Nat.le_refl _)
        refine ⟨n + 1 - (i + 1), by omega, h₉, tk₈, i + 1, ys ++ [yv], _, oc₇, _, rfl, hlt, rfl, by rw [List.length_append, List.length_singleton, hyl], W.frame _ _ _ hst₇ fun b hb o ex => k9 b o (Nat.ne_of_lt (hfp b hb)) (hfL b hb) ex,
          F₈.change hs₉ (Nat.ne_of_gt hLD) hD₀, hn₈.sameBut hs₉ (Nat.ne_of_gt (Nat.lt_succ_self _)), ⟨k9 _ _ (Nat.ne_of_gt (Nat.lt_succ_of_lt (Nat.lt_succ_self _))) (Nat.ne_of_gt (Nat.lt_succ_of_lt (Nat.lt_succ_of_lt hLD))) ec₇, dc₇⟩, fun p hp => ?_, ?_⟩
        · rcases List.mem_cons.mp hp with rfl | hp
          · exact ⟨hD₉.trans (congrArg some (LCg.lst_snoc ys yv)), (N₇ _ List.mem_cons_self).2.1, hD₀⟩
          · exact ⟨k9 _ _ (Nat.ne_of_lt (hnD p hp)) (N p hp).2.1 (N₇ _ (List.mem_cons_of_mem _ hp)).1, (N₇ _ (List.mem_cons_of_mem _ hp)).2⟩
        · intro j u hu
          rw [List.getElem?_append] at hu
          split at hu
          · exact hP' j u hu
          · rename_i hj
            have hj' : j = i := by
              rcases Nat.eq_or_lt_of_le (Nat.not_lt.mp hj) with q | q
              · rw [hyl] at q; exact q.symm
              · rw [List.getElem?_eq_none (by simp; omega)] at hu; cases hu
            subst hj'
            rw [hyl, Nat.sub_self] at hu
            simp at hu
            exact hu ▸ hPy
      · obtain rfl : i = n := Nat.le_antisymm hi (Nat.not_lt.mp hlt)
        refine W.done _ _ _ hst' fun h₂ tk₂ hk₂ => ?_
        have F₂ : Fr h₀ L h₂ m := LCg.fr_but F' hk₂ hLI hI₀
        have N₂ : News h₀ L h₂ ((D, LCg.lst ys) :: news) := LCg.news_but N' hk₂ fun p hp => by
          rcases List.mem_cons.mp hp with rfl | hp
          · exact Nat.ne_of_gt hID
          · exact off p hp
        exact hRR D (D + 1) h₂ tk₂ _ ys F₂ N₂ (fun p hp => Nat.ne_of_lt (hnD p hp)) (hn'.at' fun o e => hk₂ _ o (nw _ (Nat.le_succ _)) e) (fresh₀ _ (Nat.le_succ _)) (Nat.ne_of_gt (Nat.lt_succ_of_lt hLD)) (Nat.ne_of_gt (Nat.lt_succ_self _)) (fun p hp => Nat.ne_of_lt (Nat.lt_succ_of_lt (hnD p hp))) hyl hP'
    · rcases List.mem_cons.mp hp with rfl | hp
      · exact ⟨hacc, Nat.ne_of_gt hLD, fresh₀ _ (Nat.le_refl _)⟩
      · exact ⟨old _ _ (N p hp).1, (N p hp).2⟩
  exact codeAny_compStart_list (loop _ rfl) (W.self 0 _ _ _ (W.frame _ _ _ hst fun b _ o e => old b o e) (loop _ rfl))

def CellSrc (prog : Program) (w : World) (A : Around) (h₀ : Heap) (L : Addr) (m : Str → Option Value) (env : Env) (elt : Expr) (x : Str) (scope : Scope) (cl : List (Str × Addr)) (Q : Value → Shared → Prop) (xv : Value) (s₁ : Shared) : Prop :=
  (∃ (ax : Addr) (its : Array Value) (news : List (Addr × Obj)) (Pe : Nat → Value → Prop), xv = .ref ax ∧ A.handled = none ∧ s₁.heap.IsList ax its ∧ its.size ≤ sizeLine ∧ Fr h₀ L s₁.heap m ∧ News h₀ L s₁.heap news ∧
    (∀ g, CellElt prog w A h₀ L m env elt x scope cl news (fun i v => its[i]? = some v) Pe { s₁ with heap := g }) ∧
    (∀ (D : Addr) (h' : Heap) (tk' : Tok) (ys : List Value), Fr h₀ L h' m → News h₀ L h' ((D, LCg.lst ys) :: news) → (∀ p ∈ news, p.1 ≠ D) → ys.length = its.size → (∀ i v, ys[i]? = some v → Pe i v) → Q (.ref D) { s₁ with heap := h', toks := tk' })) ∨
  (∃ (r : Addr) (a b : Int) (t u v : Tok) (n : Nat) (news : List (Addr × Obj)) (Pe : Nat → Value → Prop), xv = .ref r ∧ A.handled = none ∧ IsRange s₁.heap r a b 1 t u v ∧ Builtin.Range.small a b 1 = true ∧ Builtin.Range.rangeSize a b 1 = ((n : Nat) : Int) ∧ n ≤ sizeLine ∧ Fr h₀ L s₁.heap m ∧ News h₀ L s₁.heap news ∧
    (∀ g, CellElt prog w A h₀ L m env elt x scope cl news (fun i v => i < n ∧ ∃ t, v = .int (a + (i : Int)) t) Pe { s₁ with heap := g }) ∧
    (∀ (D : Addr) (h' : Heap) (tk' : Tok) (ys : List Value), Fr h₀ L h' m → News h₀ L h' ((D, LCg.lst ys) :: news) → (∀ p ∈ news, p.1 ≠ D) → ys.length = n → (∀ i v, ys[i]? = some v → Pe i v) → Q (.ref D) { s₁ with heap := h', toks := tk' }))

theorem lc_cell {elt iter : Expr} {x : Str} {px : Pos} {scope : Scope} {cl : List (Str × Addr)} {pos : Pos} {Q : Value → Shared → Prop}
    (hcf : ∀ n, cellsFrom n scope.names cl = (x, n) :: cl) (hpc : ∀ h, pushCells h scope.names = h.push { cls := .type "cell", data := .cell none })
    (hkind : scope.kind = .function) (hx : (relabel scope env).names.lookup x = some .cell)
    (hclos : closureFor scope env = pure cl) (hnames : ∀ y ∈ scope.names, y.2 = .local → scope.names.lookup y.1 = some .local)
    (h : wpAny (model prog w) A (eval iter env) (CellSrc prog w A h₀ L m env elt x scope cl Q) E s)
    (hs : ∀ x, foldedSetIterable iter env x = pure x := by intro _; rfl) :
    wpAny (model prog w) A (eval (.ListComp elt [⟨.Name x px, iter, [], 0⟩] scope pos) env) Q E s := by
  rw [eval_ListComp]
  refine wpAny_comprehension_free (use := none) rfl hs hclos hkind hnames (wpAny_mono h (fun xv s₁ h₁ => ?_) fun _ _ e => e)
  refine Classical.byContradiction fun hG => ?_
  rcases h₁ with ⟨ax, its, news, Pe, exv, hh, hl, hsz, F, N, R, fin⟩ | ⟨r, a, b, t, u, v, n, news, Pe, exv, hh, hr, hsm, hn, hsz, F, N, R, fin⟩
  all_goals (refine hG ?_; clear hG; subst exv)
  · have hlt : ax < s₁.heap.objs.size := by obtain ⟨_, e, _⟩ := hl; exact Heap.lt_size e
    have hlL : ax ≠ L := by
      rintro rfl
      obtain ⟨o, ho, hc, n, hd⟩ := hl
      obtain ⟨oL, es, ep, hoL, hdL, _⟩ := F.ns
      rw [ho] at hoL
      cases hoL
      rw [hd] at hdL
      cases hdL
    refine wpAny_pyIter_list hl ?_
    have up : ∀ b o, s₁.heap.get? b = some o → (s₁.heap.push { cls := .type "list_iterator", data := .fields #[.ref ax, .int 0 0] }).get? b = some o := fun b o e => Heap.get?_push_of_some _ e
    refine block_cell (Walks.list hh s₁.heap.objs.size ax (Nat.ne_of_lt hlt) its) hsz hcf hpc hkind hx ⟨⟨_, Heap.get?_push_size _ rfl, rfl, rfl⟩, hl.push _⟩ (fun b hb => ?_) (fun b hb => ?_)
      (F.keeps up) (N.grown up) (next_is_new F) (fun p hp => Nat.ne_of_lt (Heap.lt_size (N p hp).1)) (R _) ?_
    · show b < (s₁.heap.push _).objs.size
      rw [Heap.size_push]
      rcases List.mem_cons.mp hb with rfl | hb
      · exact Nat.lt_succ_self _
      · rw [List.mem_singleton.mp hb]; exact Nat.lt_succ_of_lt hlt
    · rcases List.mem_cons.mp hb with rfl | hb
      · exact Nat.ne_of_gt F.ns.lt
      · rw [List.mem_singleton.mp hb]; exact hlL
    · intro D C h tk m' ys F' N' o1 hn hC₀ hCL hCD offC hyl hP
      refine ⟨m', hn, fun h'' hs'' => fin D h'' tk ys (F'.change hs'' hCL hC₀) (fun p hp => ?_) o1 hyl hP⟩
      refine ⟨hs''.extBut _ _ ?_ (N' p hp).1, (N' p hp).2⟩
      rcases List.mem_cons.mp hp with rfl | hp
      · exact Ne.symm hCD
      · exact offC p hp
  · refine wpAny_pyIter_range hr hsm ?_
    refine block_cell (LCg.range_walks hh a n).bound hsz hcf hpc hkind hx (by show IsRangeIter _ _ _ _ _; rw [hn]; simpa using Heap.get?_push_size _ rfl) (fun b hb => ?_) (fun b hb => ?_)
      (F.keeps fun _ _ e => Heap.get?_push_of_some _ e) (N.grown fun _ _ e => Heap.get?_push_of_some _ e) (next_is_new F) (fun p hp => Nat.ne_of_lt (Heap.lt_size (N p hp).1)) (R _) ?_
    · rw [List.mem_singleton.mp hb]
      show s₁.heap.objs.size < (s₁.heap.push _).objs.size
      rw [Heap.size_push]; exact Nat.lt_succ_self _
    · rw [List.mem_singleton.mp hb]
      exact Nat.ne_of_gt F.ns.lt
    · intro D C h tk m' ys F' N' o1 hn hC₀ hCL hCD offC hyl hP
      refine ⟨m', hn, fun h'' hs'' => fin D h'' tk ys (F'.change hs'' hCL hC₀) (fun p hp => ?_) o1 hyl hP⟩
      refine ⟨hs''.extBut _ _ ?_ (N' p hp).1, (N' p hp).2⟩
      rcases List.mem_cons.mp hp with rfl | hp
      · exact Ne.symm hCD
      · exact offC p hp
end
theorem law_at {P : Str → List Stmt → Scope → Prop} {name qual : Str} {params : Arguments} {body : List Stmt} {scope : Scope} {dV kV doc pm cdv ct oc : Value} {an od : Option Addr} {osl : Array (Option Value)}
    {name' qual' : Str} {params' : Arguments} {body' : List Stmt} {scope' : Scope} {dV' kV' doc' pm' cdv' ct' oc' : Value} {an' od' : Option Addr} {osl' : Array (Option Value)} {cl cl' : List (Str × Addr)}
    (e : (⟨oc, od, .func (fnX name qual params body scope cl dV kV doc pm an cdv ct), osl⟩ : Obj) = ⟨oc', od', .func (fnX name' qual' params' body' scope' cl' dV' kV' doc' pm' an' cdv' ct'), osl'⟩) (h : P qual' body' scope') : P qual body scope := by
  injection e with _ _ e3 _
  injection e3 with e5
  injection e5 with _ f2 _ f4 f5 _ _ _ _ _ _ _ _ _
  injection f4 with f4
  rw [f2, f4, f5]
  exact h
theorem law_st {P : Stmt → Prop} {a b : Stmt} (e : some a = some b) (h : P a) : P b := Option.some.inj e ▸ h
end RL
end
section
open PySem PySem.W PyProof.Rows PySem.Calls
namespace RL
theorem rst_C1 {M : Model} {A : Around} {env : Env} {Q : Flow → Shared → Prop} {E : Value → Shared → Prop} {s : Shared} (h : Q .next s) : wpAny M A (execs [] env) Q E s := by
  w_top off
  k_with_none
  first
    | (walk1; fail)
    | exact wpAny_execs_nil h
theorem pick_ints {vs : List Value} {ns : List Int} (hi : IntsAre vs ns) : ∀ js : List Nat, ∃ ms, IntsAre (js.filterMap (vs.toArray[·]?)) ms
  | [] => ⟨[], .nil⟩
  | j :: js => by
    obtain ⟨ms, h⟩ := pick_ints hi js
    rw [List.filterMap_cons]
    split
    · exact ⟨ms, h⟩
    · rename_i v hv
      obtain ⟨k, t, e, _⟩ := IntsAre.at hi j v (by simpa using hv)
      rw [e]
      exact ⟨k :: ms, .cons k t h⟩
theorem sum_fmod : ∀ ms : List Int, 0 ≤ (ms.map (fun x => Int.fmod x 1000000)).sum
  | [] => by simp
  | x :: ms => by
    have h1 := sum_fmod ms
    have h2 : 0 ≤ Int.fmod x 1000000 := Int.fmod_nonneg_of_pos x (by decide)
    rw [List.map_cons, List.sum_cons]
    omega
theorem ints_of : ∀ {ys : List Value}, (∀ (i : Nat) (v : Value), ys[i]? = some v → ∃ (k : Int) (t : Tok), v = Value.int k t ∧ 0 ≤ k) → ∃ ks, IntsAre ys ks ∧ ks.length = ys.length ∧ ∀ k ∈ ks, 0 ≤ k
  | [], _ => ⟨[], .nil, rfl, fun _ hk => nomatch hk⟩
  | y :: ys, h => by
    obtain ⟨ks, h1, h2, h3⟩ := ints_of (ys := ys) fun i v hv => h (i + 1) v (by simpa using hv)
    obtain ⟨k, t, rfl, h0⟩ := h 0 y rfl
    exact ⟨k :: ks, .cons k t h1, by simp [h2], fun j hj => by
      rcases List.mem_cons.mp hj with rfl | hj
      · exact h0
      · exact h3 j hj⟩
theorem st_cells {w : World} {s : Shared} {mean : ExcName → Option Value} {mg mb : Str → Option Value} {Q : Flow → Shared → Prop} {E : Value → Shared → Prop} {name qual : Str} {params : Arguments} {body : List Stmt} {scope : Scope} {dV kV doc pm cdv0 cdv ct oc : Value} {an od : Option Addr} {osl : Array (Option Value)} {fa L l : Addr} {vs : List Value} {ns : List Int} {m : Str → Option Value} {oT oC oM oB oS : Obj} {g : Heap} {st : Stmt} (hb : (hd.heap_39 w.params).lookup 185 = some ⟨oc, od, .func (fnX name qual params body scope [] dV kV doc pm an cdv0 ct), osl⟩) (hst : body[0]? = some st) (X : (hd.heap_39 w.params).In g) (T : Top hd.view_39 (looseW hd.view_39 [Str.ofString "insort_left", Str.ofString "bisect_left", Str.ofString "Whitespace"]) mean mg mb g)
    (hl : g.IsList l vs.toArray) (hi : IntsAre vs ns) (hn : ns.length ≤ 63)
    (F : Fr g L s.heap m) (dS : oS.data = .cell (some (.ref l)))
    (N : News g L s.heap [(L + 1 + 1 + 1 + 1 + 1, oT), (L + 1 + 1 + 1 + 1, oC), (L + 1 + 1 + 1, oM), (L + 1 + 1, oB), (L + 1, oS)])
    (h : ∀ h' tk' l' us (ks : List Int), Fr g L h' (fun z => if z = Str.ofString "cells" then some (.ref l') else m z) → News g L h' ((l', LCg.lst us) :: [(L + 1 + 1 + 1 + 1 + 1, oT), (L + 1 + 1 + 1 + 1, oC), (L + 1 + 1 + 1, oM), (L + 1 + 1, oB), (L + 1, oS)]) → IntsAre us ks → ks.length = 5 → (∀ k ∈ ks, 0 ≤ k) → Q .next { s with heap := h', toks := tk' }) :
    wpAny (model Pg w) (Ar 400 200) (exec st (envOfC qual scope L fa cdv)) Q E s := by
  have e0 := look_eq hb (by k_is)
  revert hst
  refine law_at (P := fun qual body scope => (body[0]? = some st) → wpAny (model Pg w) (Ar 400 200) (exec st (envOfC qual scope L fa cdv)) Q E s) e0 ?_
  clear e0 hb
  intro hst
  injection hst with hst
  subst hst

  refine' lc_enum (h₀ := g) (L := L) (m := m) rfl ?c1 ?c2 ?c3 ?c4 ?c5 ?c6 ?c7 ?c8 ?c9 ?c10 ?c11 ?c12
  case c2 => with_unfolding_all rfl
  case c1 => with_unfolding_all rfl
  case c3 => decide
  case c4 => rfl
  case c5 => decide
  case c6 => rfl
  case c7 => rfl
  case c8 => decide
  case c9 => rfl
  case c10 => rfl
  case c12 => intro _; rfl
  k_unmd
  repeat (first | (k_unfold; (try dsimp only)) | ((fail_if_success (with_reducible show wpAny _ _ (call (Value.type _) _) _ _ _)); (fail_if_success (with_reducible show wpAny _ _ (execs _ _) _ _ _)); (fail_if_success (with_reducible show RL.EnSrc _ _ _ _ _ _ _ _ _ _ _ _ _ _ _ _)); (fail_if_success (with_reducible show wpAny _ _ (pyIter _) _ _ _)); (fail_if_success (with_reducible show LCg.CompSrc _ _ _ _ _ _ _ _ _ _ _ _ _ _)); (fail_if_success (with_reducible show wpAny _ _ (subscriptTail _ (PySem.Expr.Slice _ _ _ _) _ _) _ _ _)); (fail_if_success (with_reducible show wpAny _ _ (eval (PySem.Expr.ListComp _ _ _ _) _) _ _ _)); first | walk1 | (dsimp only; walk1)))
  rename_i l' h1 F1 N1 l1
  have hl' : h1.IsList l' #[Value.int 5 s.toks, Value.int 45 (s.toks + 1), Value.int 2 (s.toks + 1 + 1), Value.int 127 (s.toks + 1 + 1 + 1), Value.int 31 (s.toks + 1 + 1 + 1 + 1)] := ⟨_, N1.get List.mem_cons_self, rfl, _, rfl⟩
  have hlt : l' < h1.objs.size := by obtain ⟨_, e, _⟩ := hl'; exact Heap.lt_size e
  have hLt : L < h1.objs.size := F1.ns.lt
  refine call_enumerate_list hl' fun h2 hE hI hsz hk => ?_
  dsimp only at hE hI hsz hk ⊢
  have F2 := F1.keeps hk
  have N2 := N1.grown hk
  have fresh₀ : ∀ a, h1.objs.size ≤ a → g.get? a = none := fun a ha => by
    cases e : g.get? a with
    | none => rfl
    | some o' => exact absurd (Heap.lt_size (F1.keep a o' e)) (Nat.not_lt.mpr ha)
  have hN1 : ∀ p ∈ [(L + 1 + 1 + 1 + 1 + 1, oT), (L + 1 + 1 + 1 + 1, oC), (L + 1 + 1 + 1, oM), (L + 1 + 1, oB), (L + 1, oS)], p.1 < h1.objs.size := fun p hp => Heap.lt_size (N1 p (List.mem_cons_of_mem _ hp)).1
  refine ⟨_, _, l', _, [(L + 1 + 1 + 1 + 1 + 1, oT), (L + 1 + 1 + 1 + 1, oC), (L + 1 + 1 + 1, oM), (L + 1 + 1, oB), (L + 1, oS)], (fun _ v => ∃ (k : Int) (t : Tok), v = Value.int k t ∧ 0 ≤ k), rfl, rfl, hE, hI, hl'.at (fun o e => hk _ o e), by (show 5 ≤ sizeLine); rw [PySem.sizeLine_eq]; decide, F2, fun p hp => N2 p (List.mem_cons_of_mem _ hp), ⟨fresh₀ _ (Nat.le_succ _), fresh₀ _ (Nat.le_refl _)⟩, ⟨Nat.ne_of_lt (Nat.lt_succ_of_lt hLt), Nat.ne_of_lt hLt⟩, fun p hp => ⟨Nat.ne_of_lt (Nat.lt_succ_of_lt (hN1 p hp)), Nat.ne_of_lt (hN1 p hp)⟩, ⟨Nat.succ_ne_self _, Nat.ne_of_lt (Nat.lt_succ_of_lt hlt), Nat.ne_of_lt hlt⟩, ?_, ?_⟩
  rotate_left
  · intro D h3 tk3 ys F3 N3 hoff hyl hys
    obtain ⟨ks, hks, hkl, hk0⟩ := ints_of hys
    exact h _ _ _ _ ks F3 N3 hks (by rw [hkl, hyl]; rfl) hk0
  intro i v hv t C m₂ h3 tk3 E3 hgC hLC hnC oCC hCC hoC hx1 hx2 F3 N3
  have hv' : ∃ k tv, v = .int k tv ∧ 0 ≤ k := by
    rcases i with _ | _ | _ | _ | _ | i
    all_goals (first | (cases hv; exact ⟨_, _, rfl, by decide⟩) | (simp at hv))
  obtain ⟨k, tv, rfl, hk0⟩ := hv'
  have hi5 : i < 5 := by
    rcases Nat.lt_or_ge i 5 with q | q
    · exact q
    · rw [Array.getElem?_eq_none (by simpa using q)] at hv; cases hv
  clear hv
  refine led_below (s := { s with heap := h2, toks := _ }) (R := fun v _ => ∃ (k : Int) (t : Tok), v = Value.int k t ∧ 0 ≤ k) F3 fun led NL => ?_
  have hCL : C ≠ L := Nat.ne_of_gt hLC
  have N4 : News g L h3 ((C, oCC) :: (L + 1, oS) :: led) := by
    intro p hp
    rcases List.mem_cons.mp hp with rfl | hp
    · exact ⟨hCC, hCL, Heap.get?_none_of_le hgC⟩
    · rcases List.mem_cons.mp hp with rfl | hp
      · exact N3 _ (by simp)
      · exact NL _ hp
  have hl3 : h3.IsList l vs.toArray := hl.at fun o e => F3.keep _ o e
  clear N3 hnC hl' hlt hLt F1 N1 hk F2 N2 fresh₀ hN1 NL hE hI hsz
  clear h
  dsimp only
  repeat (first | (k_unfold; (try dsimp only)) | ((fail_if_success (with_reducible show wpAny _ _ (call (Value.type _) _) _ _ _)); (fail_if_success (with_reducible show wpAny _ _ (execs _ _) _ _ _)); (fail_if_success (with_reducible show RL.EnSrc _ _ _ _ _ _ _ _ _ _ _ _ _ _ _ _)); (fail_if_success (with_reducible show wpAny _ _ (pyIter _) _ _ _)); (fail_if_success (with_reducible show LCg.CompSrc _ _ _ _ _ _ _ _ _ _ _ _ _ _)); (fail_if_success (with_reducible show wpAny _ _ (subscriptTail _ (PySem.Expr.Slice _ _ _ _) _ _) _ _ _)); (fail_if_success (with_reducible show wpAny _ _ (eval (PySem.Expr.ListComp _ _ _ _) _) _ _ _)); first | walk1 | (dsimp only; walk1)))
  k_dflt (refine' LCg.ListComp_U (L := L) (F₀ := F3) ?d1 ?d2 ?d3 ?d4 ?d5 ?_ ?d6)
  case d1 => with_unfolding_all rfl
  case d2 => decide
  case d3 => rfl
  case d4 => decide
  case d5 => rfl
  case d6 => intro _; rfl
  repeat (first | (k_unfold; (try dsimp only)) | ((fail_if_success (with_reducible show wpAny _ _ (call (Value.type _) _) _ _ _)); (fail_if_success (with_reducible show wpAny _ _ (execs _ _) _ _ _)); (fail_if_success (with_reducible show RL.EnSrc _ _ _ _ _ _ _ _ _ _ _ _ _ _ _ _)); (fail_if_success (with_reducible show wpAny _ _ (pyIter _) _ _ _)); (fail_if_success (with_reducible show LCg.CompSrc _ _ _ _ _ _ _ _ _ _ _ _ _ _)); (fail_if_success (with_reducible show wpAny _ _ (subscriptTail _ (PySem.Expr.Slice _ _ _ _) _ _) _ _ _)); (fail_if_success (with_reducible show wpAny _ _ (eval (PySem.Expr.ListComp _ _ _ _) _) _ _ _)); first | walk1 | (dsimp only; walk1)))
  obtain ⟨ms, hms⟩ := pick_ints hi (sliceRange (sliceBounds (some (i : Int)) (some 60) (some 5) vs.toArray.size).1 (sliceBounds (some (i : Int)) (some 60) (some 5) vs.toArray.size).2.1 (sliceBounds (some (i : Int)) (some 60) (some 5) vs.toArray.size).2.2)
  k_dflt (refine' kmk_slice3_lit (s := ⟨_, _, _, _, _⟩) F3 N4 hl3 ?zp ?zq ?zk ?zo rfl ?_ ?zs ?zt ?zz)
  case zp => exact IsPart.int _ _
  case zq => exact IsPart.int _ _
  case zk => exact IsPart.int _ _
  case zo => decide
  case zs => with_unfolding_all rfl
  case zt => kmk_pure
  case zz => rw [List.size_toArray, hi.length, PySem.sizeLine_eq]; omega
  intro D5 h5 F5 N5 l5
  dsimp only
  have hsz5 : (slicePick vs.toArray (some (i : Int)) (some 60) (some 5)).toList.toArray.size ≤ sizeLine := by
    rw [Array.toArray_toList, PySem.sizeLine_eq]
    refine Nat.le_trans (slicePick_size_le _ _ _ _) ?_
    rw [List.size_toArray, hi.length]
    omega
  have hms' : IntsAre (slicePick vs.toArray (some (i : Int)) (some 60) (some 5)).toList ms := hms
  clear hms
  generalize (slicePick vs.toArray (some (i : Int)) (some 60) (some 5)).toList = zs at *
  k_dflt (refine LCg.CompSrc.ledger (by rfl) F5 N5 List.mem_cons_self hsz5 ?_)
  intro g'
  k_dflt (refine' kcf_list (fun x => Int.fmod x 1000000) hms' (fun k' t' I' oI' C' oC' D' m' ys' h' tk' E' hk' hC' hx' F' N' off' ne' hMark' => ?_) ?_)
  · dsimp only
    repeat' (first | (k_unfold; (try dsimp only)) | ((fail_if_success (with_reducible show InvEndN _ _ _ _ _ _ _)); (fail_if_success (with_reducible show KswEnd _ _ _ _ _ _ _ _ _ _ _ _)); (fail_if_success (with_reducible show LCg.CompEnd _ _ _ _ _ _ _ _ _ _ _ _ _ _)); (fail_if_success (with_reducible show LoopStepU _ _ _ _ _ _ _ _)); (fail_if_success (with_reducible show RL.TFEnd _ _ _ _ _ _ _)); (fail_if_success (with_reducible show RL.TFPost _ _ _ _ _ _ _ _ _)); first | walk1 | (dsimp only; walk1)))
    exact ⟨_, _, _, rfl, F', N', off', .inr ⟨_, List.mem_cons_self, rfl, _, rfl⟩, kcf_el rfl rfl rfl⟩
  · unfold KPfDone
    intro ys hys D6 h6 tk6 F6 N6 off6
    dsimp only
    repeat (first | (k_unfold; (try dsimp only)) | ((fail_if_success (with_reducible show wpAny _ _ (call (Value.type _) _) _ _ _)); (fail_if_success (with_reducible show wpAny _ _ (execs _ _) _ _ _)); (fail_if_success (with_reducible show RL.EnSrc _ _ _ _ _ _ _ _ _ _ _ _ _ _ _ _)); (fail_if_success (with_reducible show wpAny _ _ (pyIter _) _ _ _)); (fail_if_success (with_reducible show LCg.CompSrc _ _ _ _ _ _ _ _ _ _ _ _ _ _)); (fail_if_success (with_reducible show wpAny _ _ (subscriptTail _ (PySem.Expr.Slice _ _ _ _) _ _) _ _ _)); (fail_if_success (with_reducible show wpAny _ _ (eval (PySem.Expr.ListComp _ _ _ _) _) _ _ _)); first | walk1 | (dsimp only; walk1)))
    · rename_i F7 N7
      exact F7
    · rename_i F7 N7
      refine ⟨fun p hp => N7 p (List.mem_cons_of_mem _ (List.mem_cons_of_mem _ (List.mem_cons_of_mem _ (List.mem_cons_of_mem _ hp)))), _, _, rfl, ?_⟩
      have := sum_fmod ms
      omega
end RL
end
section
open PySem PySem.W PyProof.Rows PySem.Calls
namespace RL
theorem store_cell {M : Model} {A : Around} {E : Value → Shared → Prop} {s : Shared} {env : Env} {name : Str} {c L : Addr} {v₀ : Option Value} {v : Value} {Q : Unit → Shared → Prop} {h₀ : Heap} {m : Str → Option Value} {oc : Obj} {led : List (Addr × Obj)}
    (hk : env.scope.kind = .function) (hl : env.kindOf name = some .cell) (hc : env.cells.lookup name = some c)
    (F : Fr h₀ L s.heap m) (N : News h₀ L s.heap ((c, oc) :: led)) (hd : oc.data = .cell v₀) (hoff : ∀ p ∈ led, p.1 ≠ c)
    (h : ∀ h' oc', Fr h₀ L h' m → News h₀ L h' ((c, oc') :: led) → oc'.data = .cell (some v) → Q () { s with heap := h' }) :
    wpAny M A (storeName env name v) Q E s := by
  have z := N _ List.mem_cons_self
  refine wpAny_storeName_cell hk hl hc ⟨oc, z.1, hd⟩ fun h' hc' hs => ?_
  obtain ⟨oc', e', d'⟩ := hc'
  refine h h' oc' (F.change hs z.2.1 z.2.2) (fun p hp => ?_) d'
  rcases List.mem_cons.mp hp with rfl | hp
  · exact ⟨e', z.2⟩
  · have y := N p (List.mem_cons_of_mem _ hp)
    exact ⟨hs.extBut _ _ (hoff p hp) y.1, y.2⟩
theorem st_aim {w : World} {s : Shared} {mean : ExcName → Option Value} {mg mb : Str → Option Value} {Q : Flow → Shared → Prop} {E : Value → Shared → Prop} {name qual : Str} {params : Arguments} {body : List Stmt} {scope : Scope} {dV kV doc pm cdv0 cdv ct oc : Value} {an od : Option Addr} {osl : Array (Option Value)} {fa L : Addr}   {led : List (Addr × Obj)} {lc : Addr} {us : List Value} {ks : List Int} {m : Str → Option Value}  {g : Heap} {st : Stmt} (hb : (hd.heap_39 w.params).lookup 185 = some ⟨oc, od, .func (fnX name qual params body scope [] dV kV doc pm an cdv0 ct), osl⟩) (hst : body[1]? = some st) (X : (hd.heap_39 w.params).In g) (T : Top hd.view_39 (looseW hd.view_39 [Str.ofString "insort_left", Str.ofString "bisect_left", Str.ofString "Whitespace"]) mean mg mb g)
    (F : Fr g L s.heap (fun z => if z = Str.ofString "cells" then some (.ref lc) else m z)) (N : News g L s.heap ((lc, LCg.lst us) :: led)) (hi : IntsAre us ks) (hn : ks.length = 5) (hk : ∀ k ∈ ks, 0 ≤ k)
    (h : ∀ h' tk' t', Fr g L h' (fun z => if z = Str.ofString "aim" then some (.str (Str.ofString "   \t" ++ ldF (Int.fdiv (ks.getD 0 0) 2) (Int.fmod (ks.getD 0 0) 2)) t') else if z = Str.ofString "cells" then some (.ref lc) else m z) → News g L h' ((lc, LCg.lst us) :: led) → Q .next { s with heap := h', toks := tk' }) :
    wpAny (model Pg w) (Ar 400 200) (exec st (envOfC qual scope L fa cdv)) Q E s := by
  have e0 := look_eq hb (by k_is)
  revert hst
  refine law_at (P := fun qual body scope => (body[1]? = some st) → wpAny (model Pg w) (Ar 400 200) (exec st (envOfC qual scope L fa cdv)) Q E s) e0 ?_
  clear e0 hb
  intro hst
  injection hst with hst
  subst hst

  k_unmd
  repeat (first | (k_unfold; (try dsimp only)) | ((fail_if_success (with_reducible show wpAny _ _ (call (Value.ref 133) _) _ _ _)); (fail_if_success (with_reducible show wpAny _ _ (call (Value.ref 140) _) _ _ _)); (fail_if_success (with_reducible show wpAny _ _ (call (Value.ref 122) _) _ _ _)); (fail_if_success (with_reducible show wpAny _ _ (execs _ _) _ _ _)); (fail_if_success (with_reducible show wpAny _ _ (pyIter _) _ _ _)); (fail_if_success (with_reducible show wpAny _ _ (eval (PySem.Expr.ListComp _ _ _ _) _) _ _ _)); (fail_if_success (with_reducible show wpAny _ _ (subscriptTail _ (PySem.Expr.Slice _ _ _ _) _ _) _ _ _)); first | walk1 | (dsimp only; walk1)))
  have hc0 : ks.getD (Int.toNat 0) 0 = ks.getD 0 0 := rfl
  rw [hc0]
  have hk0 : 0 ≤ ks.getD 0 0 := by
    rcases ks with _ | ⟨k, ks⟩
    · decide
    · exact hk k List.mem_cons_self
  refine lower rfl (by decide) (by decide) (c_lead (Frag.In.keeps X F.keep) (Top.keeps T F.keep) (Int.fdiv_nonneg hk0 (by decide)) (Int.fmod_nonneg_of_pos _ (by decide)) (by have := Int.fmod_lt_of_pos (ks.getD 0 0) (show (0 : Int) < 2 by decide); omega) ?_)
  intro h1 tk1 t1 hkp
  dsimp only at hkp ⊢
  have F1 := F.keeps hkp
  have N1 := N.grown hkp
  clear F N
  refine PyProof.Rows.add_str (fun t9 tk9 => ?_) (by rw [PySem.sizeLine_eq]; have h1 := ldF_len (Int.fdiv (ks.getD 0 0) 2) (Int.fmod (ks.getD 0 0) 2) (by have := Int.fmod_lt_of_pos (ks.getD 0 0) (show (0 : Int) < 2 by decide); omega); have h2 : (Str.ofString "   \t").length = 4 := by decide
                                                     omega)
  repeat (first | (k_unfold; (try dsimp only)) | ((fail_if_success (with_reducible show wpAny _ _ (call (Value.ref 133) _) _ _ _)); (fail_if_success (with_reducible show wpAny _ _ (call (Value.ref 140) _) _ _ _)); (fail_if_success (with_reducible show wpAny _ _ (call (Value.ref 122) _) _ _ _)); (fail_if_success (with_reducible show wpAny _ _ (execs _ _) _ _ _)); (fail_if_success (with_reducible show wpAny _ _ (pyIter _) _ _ _)); (fail_if_success (with_reducible show wpAny _ _ (eval (PySem.Expr.ListComp _ _ _ _) _) _ _ _)); (fail_if_success (with_reducible show wpAny _ _ (subscriptTail _ (PySem.Expr.Slice _ _ _ _) _ _) _ _ _)); first | walk1 | (dsimp only; walk1)))
  rename_i F2 N2
  exact h _ _ _ F2 N2
theorem st_goal {w : World} {s : Shared} {mean : ExcName → Option Value} {mg mb : Str → Option Value} {Q : Flow → Shared → Prop} {E : Value → Shared → Prop} {name qual : Str} {params : Arguments} {body : List Stmt} {scope : Scope} {dV kV doc pm cdv0 cdv ct oc : Value} {an od : Option Addr} {osl : Array (Option Value)} {fa L : Addr}   {led : List (Addr × Obj)}    {m : Str → Option Value}  {g : Heap} {st : Stmt} {xt : Str} {ta : Tok} (hb : (hd.heap_39 w.params).lookup 185 = some ⟨oc, od, .func (fnX name qual params body scope [] dV kV doc pm an cdv0 ct), osl⟩) (hst : body[2]? = some st) (X : (hd.heap_39 w.params).In g) (T : Top hd.view_39 (looseW hd.view_39 [Str.ofString "insort_left", Str.ofString "bisect_left", Str.ofString "Whitespace"]) mean mg mb g)
    (F : Fr g L s.heap (fun z => if z = Str.ofString "aim" then some (.str xt ta) else m z)) (N : News g L s.heap led)
    (hxt : ∀ c ∈ KStt.codes xt, c = 32 ∨ c = 9) (hxl : xt.length ≤ 40)
    (h : ∀ h' tk' x dx tp tc us cnt b n nt t tb tn tt k1 k2 k3 k4 k5, Fr g L h' (fun z => if z = Str.ofString "goal" then some (.ref x) else if z = Str.ofString "aim" then some (.str xt ta) else m z) → News g L h' ((x, instObj 122 dx) :: (dx, wsD w xt t n tn nt tt tp cnt.length k1 k2 k3 k4 k5) :: (tp, wsT tc b tb) :: (tc, wsC us) :: led) → (∀ p ∈ led, p.1 < dx) → @LT.lt Nat _ dx x → @LT.lt Nat _ x tc → @LT.lt Nat _ tc tp → IntsAre us cnt →
      (cnt, b, n, nt) = (KStt.codes xt).foldl wsG ([], 0, 0, 0) → Q .next { s with heap := h', toks := tk' }) :
    wpAny (model Pg w) (Ar 400 200) (exec st (envOfC qual scope L fa cdv)) Q E s := by
  have e0 := look_eq hb (by k_is)
  revert hst
  refine law_at (P := fun qual body scope => (body[2]? = some st) → wpAny (model Pg w) (Ar 400 200) (exec st (envOfC qual scope L fa cdv)) Q E s) e0 ?_
  clear e0 hb
  intro hst
  injection hst with hst
  subst hst

  k_unmd
  repeat (first | (k_unfold; (try dsimp only)) | ((fail_if_success (with_reducible show wpAny _ _ (call (Value.ref 133) _) _ _ _)); (fail_if_success (with_reducible show wpAny _ _ (call (Value.ref 140) _) _ _ _)); (fail_if_success (with_reducible show wpAny _ _ (call (Value.ref 122) _) _ _ _)); (fail_if_success (with_reducible show wpAny _ _ (execs _ _) _ _ _)); (fail_if_success (with_reducible show wpAny _ _ (pyIter _) _ _ _)); (fail_if_success (with_reducible show wpAny _ _ (eval (PySem.Expr.ListComp _ _ _ _) _) _ _ _)); (fail_if_success (with_reducible show wpAny _ _ (subscriptTail _ (PySem.Expr.Slice _ _ _ _) _ _) _ _ _)); first | walk1 | (dsimp only; walk1)))
  refine lower rfl (by decide) (by decide) (c_make F N X T hxt hxl ?_)
  intro h1 tk1 x dx tp tc us cnt b n nt tb tn tt k1 k2 k3 k4 k5 F1 N1 l1 l2 l3 l4 hi1 he1
  (try dsimp only)
  clear F N
  repeat (first | (k_unfold; (try dsimp only)) | ((fail_if_success (with_reducible show wpAny _ _ (call (Value.ref 133) _) _ _ _)); (fail_if_success (with_reducible show wpAny _ _ (call (Value.ref 140) _) _ _ _)); (fail_if_success (with_reducible show wpAny _ _ (call (Value.ref 122) _) _ _ _)); (fail_if_success (with_reducible show wpAny _ _ (execs _ _) _ _ _)); (fail_if_success (with_reducible show wpAny _ _ (pyIter _) _ _ _)); (fail_if_success (with_reducible show wpAny _ _ (eval (PySem.Expr.ListComp _ _ _ _) _) _ _ _)); (fail_if_success (with_reducible show wpAny _ _ (subscriptTail _ (PySem.Expr.Slice _ _ _ _) _ _) _ _ _)); first | walk1 | (dsimp only; walk1)))
  rename_i F2 N2
  exact h _ _ _ _ _ _ _ _ _ _ _ _ _ _ _ _ _ _ _ _ F2 N2 l1 l2 l3 l4 hi1 he1
theorem st_bounds {w : World} {s : Shared} {mean : ExcName → Option Value} {mg mb : Str → Option Value} {Q : Flow → Shared → Prop} {E : Value → Shared → Prop} {name qual : Str} {params : Arguments} {body : List Stmt} {scope : Scope} {dV kV doc pm cdv0 cdv ct oc : Value} {an od : Option Addr} {osl : Array (Option Value)} {fa L : Addr}   {led : List (Addr × Obj)}    {m : Str → Option Value} {oB : Obj} {g : Heap} {st : Stmt} {xt : Str} {ta : Tok} {x : Addr} (hb : (hd.heap_39 w.params).lookup 185 = some ⟨oc, od, .func (fnX name qual params body scope [] dV kV doc pm an cdv0 ct), osl⟩) (hst : body[3]? = some st) (X : (hd.heap_39 w.params).In g) (T : Top hd.view_39 (looseW hd.view_39 [Str.ofString "insort_left", Str.ofString "bisect_left", Str.ofString "Whitespace"]) mean mg mb g)
    (F : Fr g L s.heap (fun z => if z = Str.ofString "goal" then some (.ref x) else if z = Str.ofString "aim" then some (.str xt ta) else m z)) (N : News g L s.heap ((L + 1 + 1, oB) :: led)) (dB : oB.data = .cell none)
    (hxl : xt.length ≤ 40) (hoff : ∀ p ∈ led, p.1 ≠ L + 1 + 1)
    (h : ∀ h' tk' ld us n oB', Fr g L h' (fun z => if z = Str.ofString "goal" then some (.ref x) else if z = Str.ofString "aim" then some (.str xt ta) else m z) → News g L h' ((ld, listOf us.toArray n) :: (L + 1 + 1, oB') :: led) → oB'.data = .cell (some (.ref ld)) → IntsAre us (coL xt) → Q .next { s with heap := h', toks := tk' }) :
    wpAny (model Pg w) (Ar 400 200) (exec st (envOfC qual scope L fa cdv)) Q E s := by
  have e0 := look_eq hb (by k_is)
  revert hst
  refine law_at (P := fun qual body scope => (body[3]? = some st) → wpAny (model Pg w) (Ar 400 200) (exec st (envOfC qual scope L fa cdv)) Q E s) e0 ?_
  clear e0 hb
  intro hst
  injection hst with hst
  subst hst

  k_unmd
  repeat (first | (k_unfold; (try dsimp only)) | ((fail_if_success (with_reducible show wpAny _ _ (call (Value.ref 133) _) _ _ _)); (fail_if_success (with_reducible show wpAny _ _ (call (Value.ref 140) _) _ _ _)); (fail_if_success (with_reducible show wpAny _ _ (call (Value.ref 122) _) _ _ _)); (fail_if_success (with_reducible show wpAny _ _ (execs _ _) _ _ _)); (fail_if_success (with_reducible show wpAny _ _ (pyIter _) _ _ _)); (fail_if_success (with_reducible show wpAny _ _ (eval (PySem.Expr.ListComp _ _ _ _) _) _ _ _)); (fail_if_success (with_reducible show wpAny _ _ (subscriptTail _ (PySem.Expr.Slice _ _ _ _) _ _) _ _ _)); first | walk1 | (dsimp only; walk1)))
  refine lower rfl (by decide) (by decide) (c_columns (Frag.In.keeps X F.keep) (Top.keeps T F.keep) hxl ?_)
  intro h1 tk1 ld us n hkp hnew hld hi1
  (try dsimp only at hkp)
  (try dsimp only at hnew)
  have F1 := F.keeps hkp
  have N1 : News g L h1 ((ld, listOf us.toArray n) :: (L + 1 + 1, oB) :: led) := by
    intro p hp
    rcases List.mem_cons.mp hp with rfl | hp
    · refine ⟨hld, ?_, ?_⟩
      · rintro rfl
        obtain ⟨o, _, _, e, _⟩ := F.ns
        rw [hnew] at e; cases e
      · cases e : g.get? ld with
        | none => rfl
        | some o => have := F.keep _ _ e; rw [hnew] at this; cases this
    · exact N.grown hkp p hp
  have hne : ld ≠ L + 1 + 1 := by
    rintro rfl
    have := (N _ List.mem_cons_self).1
    rw [hnew] at this; cases this
  clear F N
  (try dsimp only)
  refine store_cell (c := L + 1 + 1) rfl rfl rfl F1 (led := (ld, listOf us.toArray n) :: led) (fun p hp => N1 p ?_) dB ?_ fun h2 oB' F2 N2 d2 => ?_
  · rcases List.mem_cons.mp hp with rfl | hp
    · exact List.mem_cons_of_mem _ List.mem_cons_self
    · rcases List.mem_cons.mp hp with rfl | hp
      · exact List.mem_cons_self
      · exact List.mem_cons_of_mem _ (List.mem_cons_of_mem _ hp)
  · intro p hp
    rcases List.mem_cons.mp hp with rfl | hp
    · exact hne
    · exact hoff p hp
  · refine h _ _ ld us n oB' F2 (fun p hp => N2 p ?_) d2 hi1
    rcases List.mem_cons.mp hp with rfl | hp
    · exact List.mem_cons_of_mem _ List.mem_cons_self
    · rcases List.mem_cons.mp hp with rfl | hp
      · exact List.mem_cons_self
      · exact List.mem_cons_of_mem _ (List.mem_cons_of_mem _ hp)
end RL
end
section
open PySem PySem.W PyProof.Rows PySem.Calls
namespace RL
theorem allLt_mem {d : Addr} : ∀ {l : List (Addr × Obj)}, AllLt d l → ∀ p ∈ l, p.1 < d
  | [], _, _, h => nomatch h
  | _ :: _, x, p, h => by
    rcases List.mem_cons.mp h with rfl | h
    · exact x.1
    · exact allLt_mem x.2 p h
theorem store_cell2 {M : Model} {A : Around} {E : Value → Shared → Prop} {s : Shared} {env : Env} {name : Str} {c ld L : Addr} {v₀ : Option Value} {v : Value} {Q : Unit → Shared → Prop} {h₀ : Heap} {m : Str → Option Value} {oc od : Obj} {led : List (Addr × Obj)}
    (hk : env.scope.kind = .function) (hl : env.kindOf name = some .cell) (hc : env.cells.lookup name = some c)
    (F : Fr h₀ L s.heap m) (N : News h₀ L s.heap ((ld, od) :: (c, oc) :: led)) (hd : oc.data = .cell v₀) (hne : ld ≠ c) (hoff : ∀ p ∈ led, p.1 ≠ c)
    (h : ∀ h' oc', Fr h₀ L h' m → News h₀ L h' ((ld, od) :: (c, oc') :: led) → oc'.data = .cell (some v) → Q () { s with heap := h' }) :
    wpAny M A (storeName env name v) Q E s := by
  have sw : ∀ {h : Heap} {o : Obj}, News h₀ L h ((ld, od) :: (c, o) :: led) → News h₀ L h ((c, o) :: (ld, od) :: led) := fun N p hp => by
    rcases List.mem_cons.mp hp with rfl | hp
    · exact N _ (List.mem_cons_of_mem _ List.mem_cons_self)
    · rcases List.mem_cons.mp hp with rfl | hp
      · exact N _ List.mem_cons_self
      · exact N _ (List.mem_cons_of_mem _ (List.mem_cons_of_mem _ hp))
  refine store_cell hk hl hc F (sw N) hd (fun p hp => ?_) fun h' oc' F' N' d' => h h' oc' F' (fun p hp => ?_) d'
  · rcases List.mem_cons.mp hp with rfl | hp
    · exact hne
    · exact hoff p hp
  · rcases List.mem_cons.mp hp with rfl | hp
    · exact N' _ (List.mem_cons_of_mem _ List.mem_cons_self)
    · rcases List.mem_cons.mp hp with rfl | hp
      · exact N' _ List.mem_cons_self
      · exact N' _ (List.mem_cons_of_mem _ (List.mem_cons_of_mem _ hp))
theorem st_masks {w : World} {s : Shared} {mean : ExcName → Option Value} {mg mb : Str → Option Value} {Q : Flow → Shared → Prop} {E : Value → Shared → Prop} {name qual : Str} {params : Arguments} {body : List Stmt} {scope : Scope} {dV kV doc pm cdv0 cdv ct oc : Value} {an od : Option Addr} {osl : Array (Option Value)} {fa L : Addr}   {led : List (Addr × Obj)}    {m : Str → Option Value} {oM : Obj} {g : Heap} {st : Stmt} (hb : (hd.heap_39 w.params).lookup 185 = some ⟨oc, od, .func (fnX name qual params body scope [] dV kV doc pm an cdv0 ct), osl⟩) (hst : body[4]? = some st) (X : (hd.heap_39 w.params).In g) (T : Top hd.view_39 (looseW hd.view_39 [Str.ofString "insort_left", Str.ofString "bisect_left", Str.ofString "Whitespace"]) mean mg mb g)
    (F : Fr g L s.heap m) (N : News g L s.heap ((L + 1 + 1 + 1, oM) :: led)) (dM : oM.data = .cell none) (hoff : ∀ p ∈ led, p.1 ≠ L + 1 + 1 + 1)
    (h : ∀ h' tk' lm oM', Fr g L h' m → News g L h' ((lm, listOf #[] 0) :: (L + 1 + 1 + 1, oM') :: led) → (∀ p ∈ (L + 1 + 1 + 1, oM') :: led, p.1 < lm) → oM'.data = .cell (some (.ref lm)) → Q .next { s with heap := h', toks := tk' }) :
    wpAny (model Pg w) (Ar 400 200) (exec st (envOfC qual scope L fa cdv)) Q E s := by
  have e0 := look_eq hb (by k_is)
  revert hst
  refine law_at (P := fun qual body scope => (body[4]? = some st) → wpAny (model Pg w) (Ar 400 200) (exec st (envOfC qual scope L fa cdv)) Q E s) e0 ?_
  clear e0 hb
  intro hst
  refine law_st (P := fun st => wpAny (model Pg w) (Ar 400 200) (exec st (envOfC _ _ L fa cdv)) Q E s) hst ?_
  clear hst

  k_unmd
  repeat (first | (k_unfold; (try dsimp only)) | ((fail_if_success (with_reducible show wpAny _ _ (call (Value.ref 133) _) _ _ _)); (fail_if_success (with_reducible show wpAny _ _ (call (Value.ref 140) _) _ _ _)); (fail_if_success (with_reducible show wpAny _ _ (call (Value.ref 122) _) _ _ _)); (fail_if_success (with_reducible show wpAny _ _ (execs _ _) _ _ _)); (fail_if_success (with_reducible show wpAny _ _ (pyIter _) _ _ _)); (fail_if_success (with_reducible show wpAny _ _ (eval (PySem.Expr.ListComp _ _ _ _) _) _ _ _)); (fail_if_success (with_reducible show wpAny _ _ (subscriptTail _ (PySem.Expr.Slice _ _ _ _) _ _) _ _ _)); first | walk1 | (dsimp only; walk1)))
  rename_i lm h1 F1 N1 l1
  refine store_cell2 (c := L + 1 + 1 + 1) rfl rfl rfl F1 N1 dM (Nat.ne_of_gt l1.1) hoff fun h2 oM' F2 N2 d2 => ?_
  refine h _ _ lm oM' F2 N2 (fun p hp => ?_) d2
  rcases List.mem_cons.mp hp with rfl | hp
  · exact l1.1
  · exact allLt_mem l1.2 p hp
end RL
end
section
open PySem PySem.W PyProof.Rows PySem.Calls PySem.Spec
namespace RL
section
variable {prog : Program} {w : World} {A : Around} {E : Value → Shared → Prop} {s : Shared} {env : Env} {h₀ : Heap} {x : Str} {body : List Stmt} {Q : Flow → Shared → Prop}
def LFEnd (h₀ : Heap) (L : Addr) (I : Addr) (own : List (Addr × Obj)) (J : (Str → Option Value) → List (Addr × Obj) → Prop) (s₁ s₂ : Shared) : Prop :=
  ∃ h' tk m' news', s₂ = { s₁ with heap := h', toks := tk } ∧ Fr h₀ L h' m' ∧ News h₀ L h' (news' ++ own) ∧ (∀ p ∈ news', p.1 ≠ I) ∧ J m' news'
def LFPost (h₀ : Heap) (L : Addr) (I : Addr) (own : List (Addr × Obj)) (J : (Str → Option Value) → List (Addr × Obj) → Prop) (s₁ : Shared) (Q : Flow → Shared → Prop) (f : Flow) (s₂ : Shared) : Prop :=
  match f with
  | .ret v => Q (.ret v) s₂
  | .brk => Q .next s₂
  | _ => LFEnd h₀ L I own J s₁ s₂
theorem lst_free {ax : Addr} {vs : List Value} {ns : List Int} {m₀ : Str → Option Value} {news : List (Addr × Obj)} (J : List Int → (Str → Option Value) → List (Addr × Obj) → Prop)
    (hh : A.handled = none) (hl : s.heap.IsList ax vs.toArray) (hi : IntsAre vs ns) (F : Fr h₀ env.locals s.heap m₀) (N : News h₀ env.locals s.heap news) (hj : J [] m₀ news)
    (turn : ∀ (pre post : List Int) (k : Int) t m₁ news₁ h tk I oI own, ns = pre ++ k :: post → J pre m₁ news₁ → (∀ p ∈ news₁, p.1 ≠ I) → (I, oI) ∈ own → (∀ p ∈ own, p.1 = I ∨ p.1 = ax) →
      Fr h₀ env.locals h (fun y => if y = x then some (.int k t) else m₁ y) → News h₀ env.locals h (news₁ ++ own) →
      wpAny (model prog w) A (execs body env) (LFPost h₀ env.locals I own (J (pre ++ [k])) { s with heap := h, toks := tk } Q) E { s with heap := h, toks := tk })
    (done : ∀ m₁ news₁ h tk, J ns m₁ news₁ → Fr h₀ env.locals h m₁ → News h₀ env.locals h news₁ → Q .next { s with heap := h, toks := tk }) :
    wpAny (model prog w) A (pyIter (.ref ax)) (fun it s₂ => LoopAtV prog w A h₀ env x body Q E it s₂) E s := by
  have hlt : ax < s.heap.objs.size := by obtain ⟨_, e, _⟩ := hl; exact Heap.lt_size e
  have hlL : ax ≠ env.locals := by
    rintro rfl
    obtain ⟨o, ho, hc, n, hd⟩ := hl
    obtain ⟨oL, es, ep, hoL, hdL, _⟩ := F.ns
    rw [ho] at hoL
    cases hoL
    rw [hd] at hdL
    cases hdL
  refine wpAny_pyIter_list hl ?_
  have up : ∀ b o, s.heap.get? b = some o → (s.heap.push { cls := .type "list_iterator", data := .fields #[.ref ax, .int 0 0] }).get? b = some o := fun b o e => Heap.get?_push_of_some _ e
  refine ⟨_, _, _, _, _, _, m₀, news, (fun i m nx => J (ns.take i) m nx), rfl, Walks.list hh s.heap.objs.size ax (Nat.ne_of_lt hlt) vs.toArray, ?_, ?_, ?_, ⟨⟨_, Heap.get?_push_size _ rfl, rfl, rfl⟩, hl.push _⟩, F.push _, (fun p hp => ⟨Heap.get?_push_of_some _ (N p hp).1, (N p hp).2⟩), (by simpa using hj), ?_, ?_⟩
  · intro hm
    rcases List.mem_cons.mp hm with hm | hm
    · exact absurd F.ns.lt (hm ▸ Nat.lt_irrefl _)
    · exact hlL (List.mem_singleton.mp hm).symm
  · intro b' hb
    rw [List.mem_singleton.mp hb]
    exact next_is_new F
  · intro p hp hI
    exact absurd (Heap.lt_size (N p hp).1) ((List.mem_singleton.mp hI) ▸ Nat.lt_irrefl _)
  · rintro i v m₁ news₁ s₁ own ⟨h, tk, rfl⟩ hi' hP hJ hoff hown hget hall hst₁ F₁ N₁
    obtain ⟨k, t, e1, e2⟩ := IntsAre.at hi i v (by simpa using hP)
    subst e1
    have hs : ns.take (i + 1) = ns.take i ++ [k] := by simp [List.take_add_one, e2]
    have e : ns = ns.take i ++ k :: ns.drop (i + 1) := by
      have ht := List.take_append_drop (i + 1) ns
      rw [hs, List.append_assoc] at ht
      exact ht.symm
    obtain ⟨oI, hI, _⟩ := hst₁.1
    have hIm : (s.heap.objs.size, oI) ∈ own := hall _ List.mem_cons_self (next_is_new F) oI hI
    have hoff' : ∀ p ∈ news₁, p.1 ≠ s.heap.objs.size := fun p hp he => hoff p hp (List.mem_singleton.mpr he)
    refine wpAny_mono (turn _ _ k t m₁ news₁ h tk s.heap.objs.size oI own e hJ hoff' hIm (fun p hp => by simpa using hown p hp) F₁ (fun p hp => N₁ p ?_)) (fun f s₂ q => ?_) fun _ _ e => e
    · rcases List.mem_append.mp hp with hp | hp
      · exact List.mem_append_right _ hp
      · exact List.mem_append_left _ hp
    · have fin : LFEnd h₀ env.locals s.heap.objs.size own (J (ns.take i ++ [k])) { s with heap := h, toks := tk } s₂ → LoopStepU h₀ env.locals [s.heap.objs.size] own ((fun i m nx => J (ns.take i) m nx) (i + 1)) { s with heap := h, toks := tk } .next s₂ := by
        rintro ⟨h', tk', m', news', rfl, F', N', hoff2, hJ2⟩
        refine LoopStepU.intro F' (fun p hp => N' p ?_) (fun p hp hm => hoff2 p hp (List.mem_singleton.mp hm)) (by dsimp only; rw [hs]; exact hJ2)
        rcases List.mem_append.mp hp with hp | hp
        · exact List.mem_append_right _ hp
        · exact List.mem_append_left _ hp
      cases f with
      | ret v => exact .ret q
      | brk => exact .brk q
      | next => exact .next (fin q)
      | cont => exact .cont (fin q)
  · rintro h' tk m' news' F' N' _ hJ
    have hll : vs.toArray.size = ns.length := by rw [List.size_toArray]; exact hi.length
    rw [hll, List.take_length] at hJ
    exact done m' news' h' tk hJ F' N'
end
section
variable {prog : Program} {w : World} {A : Around} {h₀ : Heap} {L : Addr} {m : Str → Option Value} {env : Env} {ct elt : Expr} {x : Str} {scope : Scope} {cl : List (Str × Addr)} {s : Shared} {S : List (Addr × Obj) → Prop} {P : Nat → Value → Prop} {Fin : List Value → List (Addr × Obj) → Prop} {news : List (Addr × Obj)}
/-- A comprehension by an invariant over its turns, the values so far and the ledger. -/
theorem cr_inv {n : Nat} (J : Nat → List Value → List (Addr × Obj) → Prop)
    (turn : ∀ i ys nx v I oI C oC D m₂ h tk (E' : Value → Shared → Prop), i < n → J i ys nx → P i v → LCg.NsObj oC m₂ → m₂ x = some v → Fr h₀ L h m → News h₀ L h ((I, oI) :: (C, oC) :: (D, LCg.lst ys) :: nx) → LCg.Off3 I C D nx → ((@Ne Nat I C) ∧ (@Ne Nat I D) ∧ (@Ne Nat C D)) →
      wpAny (model prog w) A (eval elt (compEnvC scope cl C env)) (LCg.CompEnd h₀ L m { s with heap := h, toks := tk } I oI C oC D (LCg.lst ys) S (fun y news' => J (i + 1) (ys ++ [y]) news')) E' { s with heap := h, toks := tk })
    (hj : J 0 [] news) (fin : ∀ ys nx, J n ys nx → Fin ys nx) : LCg.CompRest prog w A h₀ L m env elt x scope cl s S P Fin n 0 [] news := by
  have key : ∀ (j i : Nat) (ys : List Value) nx, i + j = n → J i ys nx → LCg.CompRest prog w A h₀ L m env elt x scope cl s S P Fin j i ys nx := by
    intro j
    induction j with
    | zero =>
      intro i ys nx hi hy
      obtain rfl : i = n := by omega
      exact LCg.CompRest.zero (fin ys nx hy)
    | succ j ih =>
      intro i ys nx hi hy
      refine LCg.CompRest.succ fun v I oI C oC D m₂ h tk E' hv hC hx F N off ne => ?_
      refine wpAny_mono (turn i ys nx v I oI C oC D m₂ h tk E' (by omega) hy hv hC hx F N off ne) (fun y s₂ hr => ?_) fun _ _ e => e
      obtain ⟨h', tk', nw, e, F', N', off', hS, hJ⟩ := hr
      exact ⟨h', tk', nw, e, F', N', off', hS, ih (i + 1) _ _ (by omega) hJ⟩
  exact key n 0 [] news (by omega) hj
theorem crt_inv {n : Nat} (J : Nat → List Value → List (Addr × Obj) → Prop)
    (turn : ∀ i ys nx v I oI C oC D m₂ h tk (E' : Value → Shared → Prop), i < n → J i ys nx → P i v → LCg.NsObj oC m₂ → m₂ x = some v → Fr h₀ L h m → News h₀ L h ((I, oI) :: (C, oC) :: (D, LCg.lst ys) :: nx) → LCg.Off3 I C D nx → ((@Ne Nat I C) ∧ (@Ne Nat I D) ∧ (@Ne Nat C D)) →
      wpAny (model prog w) A (isTrue ct (compEnvC scope cl C env) (eval ct (compEnvC scope cl C env))) (fun ok s' => if ok = true then
        wpAny (model prog w) A (eval elt (compEnvC scope cl C env)) (LCg.CompEnd h₀ L m { s with heap := h, toks := tk } I oI C oC D (LCg.lst ys) S (fun y news' => J (i + 1) (ys ++ [y]) news')) E' s'
        else LCg.CompEnd h₀ L m { s with heap := h, toks := tk } I oI C oC D (LCg.lst ys) S (fun _ news' => J (i + 1) ys news') Value.none s') E' { s with heap := h, toks := tk })
    (hj : J 0 [] news) (fin : ∀ ys nx, J n ys nx → Fin ys nx) : LCt.CompRestT prog w A h₀ L m env ct elt x scope cl s S P Fin n 0 [] news := by
  have key : ∀ (j i : Nat) (ys : List Value) nx, i + j = n → J i ys nx → LCt.CompRestT prog w A h₀ L m env ct elt x scope cl s S P Fin j i ys nx := by
    intro j
    induction j with
    | zero =>
      intro i ys nx hi hy
      obtain rfl : i = n := by omega
      exact LCt.CompRestT.zero (fin ys nx hy)
    | succ j ih =>
      intro i ys nx hi hy
      refine LCt.CompRestT.succ fun v I oI C oC D m₂ h tk E' hv hC hx F N off ne => ?_
      refine wpAny_mono (turn i ys nx v I oI C oC D m₂ h tk E' (by omega) hy hv hC hx F N off ne) (fun ok s₂ hr => ?_) fun _ _ e => e
      cases ok with
      | true =>
        simp only [if_true] at hr ⊢
        refine wpAny_mono hr (fun y s₃ hr => ?_) fun _ _ e => e
        obtain ⟨h', tk', nw, e, F', N', off', hS, hJ⟩ := hr
        exact ⟨h', tk', nw, e, F', N', off', hS, ih (i + 1) _ _ (by omega) hJ⟩
      | false =>
        simp only [Bool.false_eq_true, if_false] at hr ⊢
        obtain ⟨h', tk', nw, e, F', N', off', hS, hJ⟩ := hr
        exact ⟨h', tk', nw, e, F', N', off', hS, ih (i + 1) _ _ (by omega) hJ⟩
  exact key n 0 [] news (by omega) hj
end
theorem pick_mem2 {α : Type} (l : List α) (is : List Nat) (k : Nat) {t : List α} (ht : ∀ p ∈ t, p ∈ l.drop k) {p : α} (h : p ∈ is.filterMap (fun i => l[i]?) ++ t) : p ∈ l := by
  rcases List.mem_append.mp h with h | h
  · obtain ⟨i, _, e⟩ := List.mem_filterMap.mp h
    exact List.mem_of_getElem? e
  · exact List.mem_of_mem_drop (ht p h)
theorem pick_mem {α : Type} (l : List α) (is : List Nat) (k : Nat) {p : α} (h : p ∈ is.filterMap (fun i => l[i]?) ++ l.drop k) : p ∈ l := pick_mem2 l is k (fun _ h => h) h
theorem mid_mem {α : Type} (hs m e t : List α) {p : α} (h : p ∈ hs ++ (e ++ (m ++ t))) : p ∈ hs ++ (m ++ (e ++ t)) := by
  rcases List.mem_append.mp h with h | h
  · exact List.mem_append_left _ h
  · rcases List.mem_append.mp h with h | h
    · exact List.mem_append_right _ (List.mem_append_right _ (List.mem_append_left _ h))
    · rcases List.mem_append.mp h with h | h
      · exact List.mem_append_right _ (List.mem_append_left _ h)
      · exact List.mem_append_right _ (List.mem_append_right _ (List.mem_append_right _ h))
theorem ins_mem {α : Type} (hs l : List α) (x : α) (hx : x ∈ l) {p : α} (h : p ∈ hs ++ x :: l) : p ∈ hs ++ l := by
  rcases List.mem_append.mp h with h | h
  · exact List.mem_append_left _ h
  · rcases List.mem_cons.mp h with rfl | h
    · exact List.mem_append_right _ hx
    · exact List.mem_append_right _ h
theorem out_mem {α : Type} (hs l : List α) (x : α) {p : α} (h : p ∈ hs ++ l) : p ∈ hs ++ x :: l := by
  rcases List.mem_append.mp h with h | h
  · exact List.mem_append_left _ h
  · exact List.mem_append_right _ (List.mem_cons_of_mem _ h)
abbrev triD (p : Int × Int × Int) : PyData := .tuple [.int p.1, .int p.2.1, .int p.2.2]
theorem tri_eqv : ∀ (l r : List (Int × Int × Int)), PyData.eqvAll (l.map triD) (r.map triD) = decide (l = r)
  | [], [] => by simp [PyData.eqvAll]
  | [], _ :: _ => by simp [PyData.eqvAll]
  | _ :: _, [] => by simp [PyData.eqvAll]
  | a :: l, b :: r => by
    obtain ⟨a1, a2, a3⟩ := a
    obtain ⟨b1, b2, b3⟩ := b
    simp only [List.map_cons, PyData.eqvAll, PyData.eqv, tri_eqv l r]
    rw [Bool.eq_iff_iff]
    simp only [Bool.and_eq_true, decide_eq_true_eq, beq_iff_eq, List.cons.injEq, Prod.mk.injEq, and_true]
theorem tri_lay : ∀ (l : List (Int × Int × Int)), PyData.canLayAll0 (l.map triD) = true
  | [] => rfl
  | a :: l => by simp [PyData.canLayAll0, PyData.canLay0, tri_lay l]
theorem tri_depth : ∀ (l : List (Int × Int × Int)), PyData.depthAll (l.map triD) ≤ 1
  | [] => by simp [PyData.depthAll]
  | a :: l => by
    have := tri_depth l
    simp [PyData.depthAll, PyData.depth]
    omega
end RL
end
section
open PySem PySem.W PyProof.Rows PySem.Calls
namespace RL
theorem tu_text {w : World} {s : Shared} {mean : ExcName → Option Value} {mg mb : Str → Option Value} {Q : Flow → Shared → Prop} {E : Value → Shared → Prop} {name qual : Str} {params : Arguments} {body : List Stmt} {scope : Scope} {dV kV doc pm cdv0 cdv ct oc : Value} {an od : Option Addr} {osl : Array (Option Value)} {fa L : Addr}   {led : List (Addr × Obj)}    {m : Str → Option Value}  {g : Heap} {st : Stmt} {tg it : PySem.Expr} {fb oe : List Stmt} {fpos : Pos} {k : Int} {t : Tok} (hb : (hd.heap_39 w.params).lookup 185 = some ⟨oc, od, .func (fnX name qual params body scope [] dV kV doc pm an cdv0 ct), osl⟩) (hst : body[5]? = some (Stmt.For tg it fb oe fpos)) (hfb : fb[0]? = some st) (X : (hd.heap_39 w.params).In g) (T : Top hd.view_39 (looseW hd.view_39 [Str.ofString "insort_left", Str.ofString "bisect_left", Str.ofString "Whitespace"]) mean mg mb g)
    (F : Fr g L s.heap (fun z => if z = Str.ofString "cell" then some (.int k t) else m z)) (N : News g L s.heap led) (hk : 0 ≤ k)
    (h : ∀ h' tk' t', Fr g L h' (fun z => if z = Str.ofString "text" then some (.str (ldF (Int.fdiv k 3) (1 + Int.fmod k 3)) t') else if z = Str.ofString "cell" then some (.int k t) else m z) → News g L h' led → Q .next { s with heap := h', toks := tk' }) :
    wpAny (model Pg w) (Ar 400 200) (exec st (envOfC qual scope L fa cdv)) Q E s := by
  have e0 := look_eq hb (by k_is)
  revert hst
  refine law_at (P := fun qual body scope => (body[5]? = some (Stmt.For tg it fb oe fpos)) → wpAny (model Pg w) (Ar 400 200) (exec st (envOfC qual scope L fa cdv)) Q E s) e0 ?_
  clear e0 hb
  intro hst
  injection hst with hst
  injection hst with j1 j2 j3 j4 j5
  subst j3
  injection hfb with hfb
  subst hfb
  clear j1 j2 j4 j5

  k_unmd
  repeat (first | (k_unfold; (try dsimp only)) | ((fail_if_success (with_reducible show wpAny _ _ (call (Value.ref 133) _) _ _ _)); (fail_if_success (with_reducible show wpAny _ _ (call (Value.ref 140) _) _ _ _)); (fail_if_success (with_reducible show wpAny _ _ (call (Value.ref 122) _) _ _ _)); (fail_if_success (with_reducible show wpAny _ _ (execs _ _) _ _ _)); (fail_if_success (with_reducible show wpAny _ _ (pyIter _) _ _ _)); (fail_if_success (with_reducible show wpAny _ _ (eval (PySem.Expr.ListComp _ _ _ _) _) _ _ _)); (fail_if_success (with_reducible show wpAny _ _ (subscriptTail _ (PySem.Expr.Slice _ _ _ _) _ _) _ _ _)); first | walk1 | (dsimp only; walk1)))
  have hm0 : 0 ≤ Int.fmod k 3 := Int.fmod_nonneg_of_pos _ (by decide)
  have hm1 : Int.fmod k 3 < 3 := Int.fmod_lt_of_pos _ (by decide)
  refine lower rfl (by decide) (by decide) (c_lead (Frag.In.keeps X F.keep) (Top.keeps T F.keep) (Int.fdiv_nonneg hk (by decide)) (by omega) (by omega) ?_)
  intro h1 tk1 t1 hkp
  dsimp only at hkp ⊢
  have F1 := F.keeps hkp
  have N1 := N.grown hkp
  clear F N
  repeat (first | (k_unfold; (try dsimp only)) | ((fail_if_success (with_reducible show wpAny _ _ (call (Value.ref 133) _) _ _ _)); (fail_if_success (with_reducible show wpAny _ _ (call (Value.ref 140) _) _ _ _)); (fail_if_success (with_reducible show wpAny _ _ (call (Value.ref 122) _) _ _ _)); (fail_if_success (with_reducible show wpAny _ _ (execs _ _) _ _ _)); (fail_if_success (with_reducible show wpAny _ _ (pyIter _) _ _ _)); (fail_if_success (with_reducible show wpAny _ _ (eval (PySem.Expr.ListComp _ _ _ _) _) _ _ _)); (fail_if_success (with_reducible show wpAny _ _ (subscriptTail _ (PySem.Expr.Slice _ _ _ _) _ _) _ _ _)); first | walk1 | (dsimp only; walk1)))
  rename_i F2 N2
  exact h _ _ _ F2 N2
theorem tu_cols {w : World} {s : Shared} {mean : ExcName → Option Value} {mg mb : Str → Option Value} {Q : Flow → Shared → Prop} {E : Value → Shared → Prop} {name qual : Str} {params : Arguments} {body : List Stmt} {scope : Scope} {dV kV doc pm cdv0 cdv ct oc : Value} {an od : Option Addr} {osl : Array (Option Value)} {fa L : Addr}   {led : List (Addr × Obj)}    {m : Str → Option Value} {oC : Obj} {g : Heap} {st : Stmt} {tg it : PySem.Expr} {fb oe : List Stmt} {fpos : Pos} {xt : Str} {ta : Tok} {v₀ : Option Value} (hb : (hd.heap_39 w.params).lookup 185 = some ⟨oc, od, .func (fnX name qual params body scope [] dV kV doc pm an cdv0 ct), osl⟩) (hst : body[5]? = some (Stmt.For tg it fb oe fpos)) (hfb : fb[1]? = some st) (X : (hd.heap_39 w.params).In g) (T : Top hd.view_39 (looseW hd.view_39 [Str.ofString "insort_left", Str.ofString "bisect_left", Str.ofString "Whitespace"]) mean mg mb g)
    (F : Fr g L s.heap (fun z => if z = Str.ofString "text" then some (.str xt ta) else m z)) (N : News g L s.heap ((L + 1 + 1 + 1 + 1, oC) :: led)) (dC : oC.data = .cell v₀)
    (hxl : xt.length ≤ 40) (hoff : ∀ p ∈ led, p.1 ≠ L + 1 + 1 + 1 + 1)
    (h : ∀ h' tk' ld us n oC', Fr g L h' (fun z => if z = Str.ofString "text" then some (.str xt ta) else m z) → News g L h' ((ld, listOf us.toArray n) :: (L + 1 + 1 + 1 + 1, oC') :: led) → (∀ p ∈ (L + 1 + 1 + 1 + 1, oC') :: led, p.1 ≠ ld) → oC'.data = .cell (some (.ref ld)) → IntsAre us (coL xt) → Q .next { s with heap := h', toks := tk' }) :
    wpAny (model Pg w) (Ar 400 200) (exec st (envOfC qual scope L fa cdv)) Q E s := by
  have e0 := look_eq hb (by k_is)
  revert hst
  refine law_at (P := fun qual body scope => (body[5]? = some (Stmt.For tg it fb oe fpos)) → wpAny (model Pg w) (Ar 400 200) (exec st (envOfC qual scope L fa cdv)) Q E s) e0 ?_
  clear e0 hb
  intro hst
  injection hst with hst
  injection hst with j1 j2 j3 j4 j5
  subst j3
  injection hfb with hfb
  subst hfb
  clear j1 j2 j4 j5

  k_unmd
  repeat (first | (k_unfold; (try dsimp only)) | ((fail_if_success (with_reducible show wpAny _ _ (call (Value.ref 133) _) _ _ _)); (fail_if_success (with_reducible show wpAny _ _ (call (Value.ref 140) _) _ _ _)); (fail_if_success (with_reducible show wpAny _ _ (call (Value.ref 122) _) _ _ _)); (fail_if_success (with_reducible show wpAny _ _ (execs _ _) _ _ _)); (fail_if_success (with_reducible show wpAny _ _ (pyIter _) _ _ _)); (fail_if_success (with_reducible show wpAny _ _ (eval (PySem.Expr.ListComp _ _ _ _) _) _ _ _)); (fail_if_success (with_reducible show wpAny _ _ (subscriptTail _ (PySem.Expr.Slice _ _ _ _) _ _) _ _ _)); first | walk1 | (dsimp only; walk1)))
  refine lower rfl (by decide) (by decide) (c_columns (Frag.In.keeps X F.keep) (Top.keeps T F.keep) hxl ?_)
  intro h1 tk1 ld us n hkp hnew hld hi1
  (try dsimp only at hkp)
  (try dsimp only at hnew)
  have F1 := F.keeps hkp
  have N1 : News g L h1 ((ld, listOf us.toArray n) :: (L + 1 + 1 + 1 + 1, oC) :: led) := by
    intro p hp
    rcases List.mem_cons.mp hp with rfl | hp
    · refine ⟨hld, ?_, ?_⟩
      · rintro rfl
        obtain ⟨o, _, _, e, _⟩ := F.ns
        rw [hnew] at e; cases e
      · cases e : g.get? ld with
        | none => rfl
        | some o => have := F.keep _ _ e; rw [hnew] at this; cases this
    · exact N.grown hkp p hp
  have hne : ∀ p ∈ (L + 1 + 1 + 1 + 1, oC) :: led, p.1 ≠ ld := by
    rintro p hp rfl
    have := (N _ hp).1
    rw [hnew] at this; cases this
  clear F N
  (try dsimp only)
  refine store_cell2 (c := L + 1 + 1 + 1 + 1) rfl rfl rfl F1 N1 dC (Ne.symm (hne _ List.mem_cons_self)) hoff fun h2 oB' F2 N2 d2 => ?_
  refine h _ _ ld us n oB' F2 N2 (fun p hp => ?_) d2 hi1
  rcases List.mem_cons.mp hp with rfl | hp
  · exact hne (L + 1 + 1 + 1 + 1, oC) List.mem_cons_self
  · exact hne _ (List.mem_cons_of_mem _ hp)
theorem tu_space {w : World} {s : Shared} {mean : ExcName → Option Value} {mg mb : Str → Option Value} {Q : Flow → Shared → Prop} {E : Value → Shared → Prop} {name qual : Str} {params : Arguments} {body : List Stmt} {scope : Scope} {dV kV doc pm cdv0 cdv ct oc : Value} {an od : Option Addr} {osl : Array (Option Value)} {fa L : Addr}   {led : List (Addr × Obj)}    {m : Str → Option Value}  {g : Heap} {st : Stmt} {tg it : PySem.Expr} {fb oe : List Stmt} {fpos : Pos} {xt : Str} {ta : Tok} (hb : (hd.heap_39 w.params).lookup 185 = some ⟨oc, od, .func (fnX name qual params body scope [] dV kV doc pm an cdv0 ct), osl⟩) (hst : body[5]? = some (Stmt.For tg it fb oe fpos)) (hfb : fb[2]? = some st) (X : (hd.heap_39 w.params).In g) (T : Top hd.view_39 (looseW hd.view_39 [Str.ofString "insort_left", Str.ofString "bisect_left", Str.ofString "Whitespace"]) mean mg mb g)
    (F : Fr g L s.heap (fun z => if z = Str.ofString "text" then some (.str xt ta) else m z)) (N : News g L s.heap led)
    (hxt : ∀ c ∈ KStt.codes xt, c = 32 ∨ c = 9) (hxl : xt.length ≤ 40)
    (h : ∀ h' tk' x dx tp tc us cnt b n nt t tb tn tt k1 k2 k3 k4 k5, Fr g L h' (fun z => if z = Str.ofString "space" then some (.ref x) else if z = Str.ofString "text" then some (.str xt ta) else m z) → News g L h' ((x, instObj 122 dx) :: (dx, wsD w xt t n tn nt tt tp cnt.length k1 k2 k3 k4 k5) :: (tp, wsT tc b tb) :: (tc, wsC us) :: led) → (∀ p ∈ led, p.1 < dx) → @LT.lt Nat _ dx x → @LT.lt Nat _ x tc → @LT.lt Nat _ tc tp → IntsAre us cnt →
      (cnt, b, n, nt) = (KStt.codes xt).foldl wsG ([], 0, 0, 0) → Q .next { s with heap := h', toks := tk' }) :
    wpAny (model Pg w) (Ar 400 200) (exec st (envOfC qual scope L fa cdv)) Q E s := by
  have e0 := look_eq hb (by k_is)
  revert hst
  refine law_at (P := fun qual body scope => (body[5]? = some (Stmt.For tg it fb oe fpos)) → wpAny (model Pg w) (Ar 400 200) (exec st (envOfC qual scope L fa cdv)) Q E s) e0 ?_
  clear e0 hb
  intro hst
  injection hst with hst
  injection hst with j1 j2 j3 j4 j5
  subst j3
  injection hfb with hfb
  subst hfb
  clear j1 j2 j4 j5

  k_unmd
  repeat (first | (k_unfold; (try dsimp only)) | ((fail_if_success (with_reducible show wpAny _ _ (call (Value.ref 133) _) _ _ _)); (fail_if_success (with_reducible show wpAny _ _ (call (Value.ref 140) _) _ _ _)); (fail_if_success (with_reducible show wpAny _ _ (call (Value.ref 122) _) _ _ _)); (fail_if_success (with_reducible show wpAny _ _ (execs _ _) _ _ _)); (fail_if_success (with_reducible show wpAny _ _ (pyIter _) _ _ _)); (fail_if_success (with_reducible show wpAny _ _ (eval (PySem.Expr.ListComp _ _ _ _) _) _ _ _)); (fail_if_success (with_reducible show wpAny _ _ (subscriptTail _ (PySem.Expr.Slice _ _ _ _) _ _) _ _ _)); first | walk1 | (dsimp only; walk1)))
  refine lower rfl (by decide) (by decide) (c_make F N X T hxt hxl ?_)
  intro h1 tk1 x dx tp tc us cnt b n nt tb tn tt k1 k2 k3 k4 k5 F1 N1 l1 l2 l3 l4 hi1 he1
  (try dsimp only)
  clear F N
  repeat (first | (k_unfold; (try dsimp only)) | ((fail_if_success (with_reducible show wpAny _ _ (call (Value.ref 133) _) _ _ _)); (fail_if_success (with_reducible show wpAny _ _ (call (Value.ref 140) _) _ _ _)); (fail_if_success (with_reducible show wpAny _ _ (call (Value.ref 122) _) _ _ _)); (fail_if_success (with_reducible show wpAny _ _ (execs _ _) _ _ _)); (fail_if_success (with_reducible show wpAny _ _ (pyIter _) _ _ _)); (fail_if_success (with_reducible show wpAny _ _ (eval (PySem.Expr.ListComp _ _ _ _) _) _ _ _)); (fail_if_success (with_reducible show wpAny _ _ (subscriptTail _ (PySem.Expr.Slice _ _ _ _) _ _) _ _ _)); first | walk1 | (dsimp only; walk1)))
  rename_i F2 N2
  exact h _ _ _ _ _ _ _ _ _ _ _ _ _ _ _ _ _ _ _ _ F2 N2 l1 l2 l3 l4 hi1 he1
end RL
end
section
open PySem PySem.W PyProof.Rows PySem.Calls
namespace RL
theorem off1_mem {D : Addr} : ∀ {l : List (Addr × Obj)}, LCg.Off1 D l → ∀ p ∈ l, p.1 ≠ D
  | [], _, _, h => nomatch h
  | _ :: _, x, p, h => by
    rcases List.mem_cons.mp h with rfl | h
    · exact x.1
    · exact off1_mem x.2 p h
def duG (cs bs : List Int) (l : List (Int × Int × Int)) (z : Int) : List (Int × Int × Int) := if cs.getD (z - 1).toNat 0 ≥ bs.getD (z - 1).toNat 0 then l ++ [(z, cs.getD (z - 1).toNat 0, bs.getD (z - 1).toNat 0)] else l
def duF (cs bs : List Int) : List (Int × Int × Int) := (rangeKs 1 4).foldl (duG cs bs) []
theorem tu_due {w : World} {s : Shared} {mean : ExcName → Option Value} {mg mb : Str → Option Value} {Q : Flow → Shared → Prop} {E : Value → Shared → Prop} {name qual : Str} {params : Arguments} {body : List Stmt} {scope : Scope} {dV kV doc pm cdv0 cdv ct oc : Value} {an od : Option Addr} {osl : Array (Option Value)} {fa L : Addr}   {led : List (Addr × Obj)}    {m : Str → Option Value} {oC oB : Obj} {g : Heap} {st : Stmt} {tg it : PySem.Expr} {fb oe : List Stmt} {fpos : Pos} {ld lb : Addr} {uc ub : List Value} {cs bs : List Int} {nc nb : Nat} (hb : (hd.heap_39 w.params).lookup 185 = some ⟨oc, od, .func (fnX name qual params body scope [] dV kV doc pm an cdv0 ct), osl⟩) (hst : body[5]? = some (Stmt.For tg it fb oe fpos)) (hfb : fb[3]? = some st) (X : (hd.heap_39 w.params).In g) (T : Top hd.view_39 (looseW hd.view_39 [Str.ofString "insort_left", Str.ofString "bisect_left", Str.ofString "Whitespace"]) mean mg mb g)
    (F : Fr g L s.heap m) (N : News g L s.heap ((ld, listOf uc.toArray nc) :: (lb, listOf ub.toArray nb) :: (L + 1 + 1 + 1 + 1, oC) :: (L + 1 + 1, oB) :: led)) (dC : oC.data = .cell (some (.ref ld))) (dB : oB.data = .cell (some (.ref lb)))
    (hic : IntsAre uc cs) (hib : IntsAre ub bs) (hcl : cs.length = 4) (hbl : bs.length = 4)
    (h : ∀ h' tk' D (tl : List Tri), Fr g L h' (fun z => if z = Str.ofString "due" then some (.ref D) else m z) → News g L h' ((D, LCg.lst (tl.map triV)) :: (tl.map triO ++ (ld, listOf uc.toArray nc) :: (lb, listOf ub.toArray nb) :: (L + 1 + 1 + 1 + 1, oC) :: (L + 1 + 1, oB) :: led)) → (∀ p ∈ tl.map triO ++ ((ld, listOf uc.toArray nc) :: (lb, listOf ub.toArray nb) :: (L + 1 + 1 + 1 + 1, oC) :: (L + 1 + 1, oB) :: led), p.1 ≠ D) → (∀ e ∈ tl, ∀ p ∈ ((ld, listOf uc.toArray nc) :: (lb, listOf ub.toArray nb) :: (L + 1 + 1 + 1 + 1, oC) :: (L + 1 + 1, oB) :: led), p.1 ≠ e.1) → tl.map triI = duF cs bs → Q .next { s with heap := h', toks := tk' }) :
    wpAny (model Pg w) (Ar 400 200) (exec st (envOfC qual scope L fa cdv)) Q E s := by
  have e0 := look_eq hb (by k_is)
  revert hst
  refine law_at (P := fun qual body scope => (body[5]? = some (Stmt.For tg it fb oe fpos)) → wpAny (model Pg w) (Ar 400 200) (exec st (envOfC qual scope L fa cdv)) Q E s) e0 ?_
  clear e0 hb
  intro hst
  injection hst with hst
  injection hst with j1 j2 j3 j4 j5
  subst j3
  injection hfb with hfb
  subst hfb
  clear j1 j2 j4 j5

  k_unmd
  k_dflt (refine LCt.Assign_ListComp_T (F₀ := F) (by rfl) (by with_unfolding_all rfl) (by with_unfolding_all rfl) (by decide) (by rfl) (by decide) (by rfl) (by rfl) (by rfl) ?_)
  repeat (first | (k_unfold; (try dsimp only)) | ((fail_if_success (with_reducible show LCt.CompSrcT _ _ _ _ _ _ _ _ _ _ _ _ _ _ _)); (fail_if_success (with_reducible show LCg.CompEnd _ _ _ _ _ _ _ _ _ _ _ _ _ _)); (fail_if_success (with_reducible show wpAny _ _ (pyIter _) _ _ _)); (fail_if_success (with_reducible show wpAny _ _ (execs _ _) _ _ _)); first | walk1 | (dsimp only; walk1)))
  rename_i hR F1 N1 hkp1
  k_dflt (refine LCt.CompSrcT.range (by rfl) F1 N1 hR (by decide) (by rfl) (by exact Nat.le_of_ble_eq_true rfl) ?_)
  intro g'
  refine crt_inv (n := 4) (fun i ys nx => ∃ tl : List Tri, ys = tl.map triV ∧ nx = tl.map triO ++ ((ld, listOf uc.toArray nc) :: (lb, listOf ub.toArray nb) :: (L + 1 + 1 + 1 + 1, oC) :: (L + 1 + 1, oB) :: led) ∧ (∀ e ∈ tl, ∀ p ∈ ((ld, listOf uc.toArray nc) :: (lb, listOf ub.toArray nb) :: (L + 1 + 1 + 1 + 1, oC) :: (L + 1 + 1, oB) :: led), p.1 ≠ e.1) ∧ tl.map triI = (rangeKs 1 i).foldl (duG cs bs) []) ?_ ⟨[], rfl, rfl, (fun _ hq => nomatch hq), rfl⟩ ?_
  · rintro i ys nx v I oI C oC' D m₂ h2 tk2 E' hi4 ⟨tl, rfl, rfl, hap, hst⟩ ⟨t', rfl⟩ hCo hx2 F2 N2 off2 ne2
    have N3 : News g L h2 ((I, oI) :: (C, oC') :: (D, LCg.lst (tl.map triV)) :: (ld, listOf uc.toArray nc) :: (lb, listOf ub.toArray nb) :: (L + 1 + 1 + 1 + 1, oC) :: (L + 1 + 1, oB) :: (tl.map triO ++ led)) := fun p hp => N2 p (mid_mem [(I, oI), (C, oC'), (D, LCg.lst (tl.map triV))] (tl.map triO) [(ld, listOf uc.toArray nc), (lb, listOf ub.toArray nb), (L + 1 + 1 + 1 + 1, oC), (L + 1 + 1, oB)] led hp)
    have hrs : (rangeKs 1 (i + 1)).foldl (duG cs bs) [] = duG cs bs (tl.map triI) (1 + (i : Int)) := by
      rw [hst]; simp [rangeKs, List.range_succ]
    generalize hk : (1 : Int) + (i : Int) = k at *
    have hk1 : 1 ≤ k := by omega
    have hk4 : k ≤ 4 := by omega
    clear N2 hR F1 N1 hkp1
    dsimp only
    repeat (first | (k_unfold; (try dsimp only)) | ((fail_if_success (with_reducible show LCt.CompSrcT _ _ _ _ _ _ _ _ _ _ _ _ _ _ _)); (fail_if_success (with_reducible show LCg.CompEnd _ _ _ _ _ _ _ _ _ _ _ _ _ _)); (fail_if_success (with_reducible show wpAny _ _ (pyIter _) _ _ _)); (fail_if_success (with_reducible show wpAny _ _ (execs _ _) _ _ _)); first | walk1 | (dsimp only; walk1)))
    · walk1
      repeat (first | (k_unfold; (try dsimp only)) | ((fail_if_success (with_reducible show LCt.CompSrcT _ _ _ _ _ _ _ _ _ _ _ _ _ _ _)); (fail_if_success (with_reducible show LCg.CompEnd _ _ _ _ _ _ _ _ _ _ _ _ _ _)); (fail_if_success (with_reducible show wpAny _ _ (pyIter _) _ _ _)); (fail_if_success (with_reducible show wpAny _ _ (execs _ _) _ _ _)); first | walk1 | (dsimp only; walk1)))
      have hc : bs.getD (k - 1).toNat 0 ≤ cs.getD (k - 1).toNat 0 := by assumption
      rename_i t1 t2 D' h9 F9 N9 l9
      refine LCg.CompEnd.intro F9 N9 ((tl ++ [(D', (k, t'), (cs.getD (k - 1).toNat 0, t1), (bs.getD (k - 1).toNat 0, t2))]).map triO ++ ((ld, listOf uc.toArray nc) :: (lb, listOf ub.toArray nb) :: (L + 1 + 1 + 1 + 1, oC) :: (L + 1 + 1, oB) :: led)) (fun p hp => by
        rw [List.map_append, List.append_assoc] at hp
        rcases (List.mem_append (s := [(I, oI), (C, oC'), (D, LCg.lst (tl.map triV))])).mp hp with hp | hp
        · exact List.mem_cons_of_mem _ (List.mem_append_left _ hp)
        rcases List.mem_append.mp hp with hp | hp
        · exact List.mem_cons_of_mem _ (mid_mem [(I, oI), (C, oC'), (D, LCg.lst (tl.map triV))] [(ld, listOf uc.toArray nc), (lb, listOf ub.toArray nb), (L + 1 + 1 + 1 + 1, oC), (L + 1 + 1, oB)] (tl.map triO) led (List.mem_append_right [_, _, _] (List.mem_append_left _ hp)))
        · rcases List.mem_cons.mp hp with rfl | hp
          · exact List.mem_cons_self
          · exact List.mem_cons_of_mem _ (mid_mem [(I, oI), (C, oC'), (D, LCg.lst (tl.map triV))] [(ld, listOf uc.toArray nc), (lb, listOf ub.toArray nb), (L + 1 + 1 + 1 + 1, oC), (L + 1 + 1, oB)] (tl.map triO) led (List.mem_append_right [_, _, _] (List.mem_append_right (tl.map triO) hp)))) (LCg.Off3.of fun p hp => ?_) trivial ⟨_, by rw [List.map_append]; rfl, rfl, ?_, ?_⟩
      · have off3 := off2.mem
        rw [List.map_append, List.append_assoc] at hp
        rcases List.mem_append.mp hp with hp | hp
        · exact off3 p (List.mem_append_left _ hp)
        · rcases List.mem_cons.mp hp with rfl | hp
          · exact ⟨Nat.ne_of_gt l9.1, Nat.ne_of_gt l9.2.1, Nat.ne_of_gt l9.2.2.1⟩
          · exact off3 p (List.mem_append_right _ hp)
      · intro e he p hp
        rcases List.mem_append.mp he with he | he
        · exact hap e he p hp
        · rw [List.mem_singleton.mp he]
          refine Nat.ne_of_lt (allLt_mem (l := (ld, listOf uc.toArray nc) :: (lb, listOf ub.toArray nb) :: (L + 1 + 1 + 1 + 1, oC) :: (L + 1 + 1, oB) :: (tl.map triO ++ led)) l9.2.2.2 p ?_)
          exact mid_mem [] [(ld, listOf uc.toArray nc), (lb, listOf ub.toArray nb), (L + 1 + 1 + 1 + 1, oC), (L + 1 + 1, oB)] (tl.map triO) led (List.mem_append_right (tl.map triO) hp)
      · rw [hrs, duG, if_pos hc, List.map_append]; rfl
    · have hc : ¬ bs.getD (k - 1).toNat 0 ≤ cs.getD (k - 1).toNat 0 := by assumption
      refine LCg.CompEnd.intro F2 N3 (tl.map triO ++ ((ld, listOf uc.toArray nc) :: (lb, listOf ub.toArray nb) :: (L + 1 + 1 + 1 + 1, oC) :: (L + 1 + 1, oB) :: led)) (fun p hp => mid_mem [(I, oI), (C, oC'), (D, LCg.lst (tl.map triV))] [(ld, listOf uc.toArray nc), (lb, listOf ub.toArray nb), (L + 1 + 1 + 1 + 1, oC), (L + 1 + 1, oB)] (tl.map triO) led hp) off2 trivial ⟨tl, rfl, rfl, hap, ?_⟩
      rw [hrs, duG, if_neg hc]
  · rintro ys nx ⟨tl, rfl, rfl, hap, hst⟩
    intro D h2 tk2 F2 N2 off2
    exact h _ _ D tl F2 N2 (off1_mem off2) hap hst
end RL
end
section
open PySem PySem.W PyProof.Rows PySem.Calls
namespace RL
theorem tu_wit {w : World} {s : Shared} {mean : ExcName → Option Value} {mg mb : Str → Option Value} {Q : Flow → Shared → Prop} {E : Value → Shared → Prop} {name qual : Str} {params : Arguments} {body : List Stmt} {scope : Scope} {dV kV doc pm cdv0 cdv ct oc : Value} {an od : Option Addr} {osl : Array (Option Value)} {fa L : Addr}   {led : List (Addr × Obj)}    {m : Str → Option Value}  {g : Heap} {st : Stmt} {tg it : PySem.Expr} {fb oe : List Stmt} {fpos : Pos} {x dx tp tc : Addr} {us : List Value} {cnt : List Int} {b n nt : Int} {xt : Str} {t tb tn tt k1 k2 k3 k4 k5 : Tok} {x2 dx2 tp2 tc2 : Addr} {us2 : List Value} {cnt2 : List Int} {b2 n2 nt2 : Int} {xt2 : Str} {t2 tb2 tn2 tt2 k12 k22 k32 k42 k52 : Tok} {v1 : Int} (hb : (hd.heap_39 w.params).lookup 185 = some ⟨oc, od, .func (fnX name qual params body scope [] dV kV doc pm an cdv0 ct), osl⟩) (hst : body[5]? = some (Stmt.For tg it fb oe fpos)) (hfb : fb[4]? = some st) (X : (hd.heap_39 w.params).In g) (T : Top hd.view_39 (looseW hd.view_39 [Str.ofString "insort_left", Str.ofString "bisect_left", Str.ofString "Whitespace"]) mean mg mb g)
    (F : Fr g L s.heap (fun z => if z = Str.ofString "space" then some (.ref x) else if z = Str.ofString "goal" then some (.ref x2) else m z)) (N : News g L s.heap ([(x, instObj 122 dx), (dx, wsD w xt t n tn nt tt tp cnt.length k1 k2 k3 k4 k5), (tp, wsT tc b tb), (tc, wsC us), (x2, instObj 122 dx2), (dx2, wsD w xt2 t2 n2 tn2 nt2 tt2 tp2 cnt2.length k12 k22 k32 k42 k52), (tp2, wsT tc2 b2 tb2), (tc2, wsC us2)] ++ led))
    (hi : IntsAre us cnt) (hcl : cnt.length ≤ 42) (hb0 : 0 ≤ b) (hb1 : b ≤ 41) (hnt0 : 0 ≤ nt) (hnt1 : nt ≤ 41) (hcv : ∀ k : Nat, 0 ≤ cnt.getD k 0 ∧ cnt.getD k 0 ≤ 41) (hi2 : IntsAre us2 cnt2) (hcl2 : cnt2.length ≤ 42) (hb02 : 0 ≤ b2) (hb12 : b2 ≤ 41) (hnt02 : 0 ≤ nt2) (hnt12 : nt2 ≤ 41) (hcv2 : ∀ k : Nat, 0 ≤ cnt2.getD k 0 ∧ cnt2.getD k 0 ≤ 41) (hl1 : (if b > (cnt.length : Int) - 1 then b else (cnt.length : Int) - 1) = v1) (hv1 : v1 ≤ 3) (hl2 : (if b2 > (cnt2.length : Int) - 1 then b2 else (cnt2.length : Int) - 1) = 3) (hs2 : 1 < cnt2.length)
    (h : ∀ h' tk' la nn (tl : List Tri), Fr g L h' (fun z => if z = Str.ofString "witness" then some (.ref la) else if z = Str.ofString "space" then some (.ref x) else if z = Str.ofString "goal" then some (.ref x2) else m z) → News g L h' ((la, listOf (tl.map triV).toArray nn) :: (tl.map triO ++ ([(x, instObj 122 dx), (dx, wsD w xt t n tn nt tt tp cnt.length k1 k2 k3 k4 k5), (tp, wsT tc b tb), (tc, wsC us), (x2, instObj 122 dx2), (dx2, wsD w xt2 t2 n2 tn2 nt2 tt2 tp2 cnt2.length k12 k22 k32 k42 k52), (tp2, wsT tc2 b2 tb2), (tc2, wsC us2)] ++ led))) → (∀ p ∈ led, p.1 ≠ la ∧ ∀ e ∈ tl, p.1 ≠ e.1) → tl.map triI = nlF cnt b nt cnt2 b2 nt2 → Q .next { s with heap := h', toks := tk' }) :
    wpAny (model Pg w) (Ar 400 200) (exec st (envOfC qual scope L fa cdv)) Q E s := by
  have e0 := look_eq hb (by k_is)
  revert hst
  refine law_at (P := fun qual body scope => (body[5]? = some (Stmt.For tg it fb oe fpos)) → wpAny (model Pg w) (Ar 400 200) (exec st (envOfC qual scope L fa cdv)) Q E s) e0 ?_
  clear e0 hb
  intro hst
  injection hst with hst
  injection hst with j1 j2 j3 j4 j5
  subst j3
  injection hfb with hfb
  subst hfb
  clear j1 j2 j4 j5

  k_unmd
  repeat (first | (k_unfold; (try dsimp only)) | ((fail_if_success (with_reducible show wpAny _ _ (call (Value.ref 133) _) _ _ _)); (fail_if_success (with_reducible show wpAny _ _ (call (Value.ref 140) _) _ _ _)); (fail_if_success (with_reducible show wpAny _ _ (call (Value.ref 122) _) _ _ _)); (fail_if_success (with_reducible show wpAny _ _ (execs _ _) _ _ _)); (fail_if_success (with_reducible show wpAny _ _ (pyIter _) _ _ _)); (fail_if_success (with_reducible show wpAny _ _ (eval (PySem.Expr.ListComp _ _ _ _) _) _ _ _)); (fail_if_success (with_reducible show wpAny _ _ (subscriptTail _ (PySem.Expr.Slice _ _ _ _) _ _) _ _ _)); (fail_if_success (with_reducible show wpAny _ _ (call (Value.ref 119) _) _ _ _)); (fail_if_success (with_reducible show wpAny _ _ (call (Value.ref 112) _) _ _ _)); first | walk1 | (dsimp only; walk1)))
  refine lower rfl (by decide) (by decide) (c_notless (x := x) (dx := dx) (tp := tp) (tc := tc) (us := us) (cnt := cnt) (b := b) (n := n) (nt := nt) (xt := xt) (t := t) (tb := tb) (tn := tn) (tt := tt) (k1 := k1) (k2 := k2) (k3 := k3) (k4 := k4) (k5 := k5) (x2 := x2) (dx2 := dx2) (tp2 := tp2) (tc2 := tc2) (us2 := us2) (cnt2 := cnt2) (b2 := b2) (n2 := n2) (nt2 := nt2) (xt2 := xt2) (t2 := t2) (tb2 := tb2) (tn2 := tn2) (tt2 := tt2) (k12 := k12) (k22 := k22) (k32 := k32) (k42 := k42) (k52 := k52) F.keep X T (fun p hp => ⟨(N p (List.mem_append_left _ hp)).1, (N p (List.mem_append_left _ hp)).2.2⟩) hi hcl hb0 hb1 hnt0 hnt1 hcv hi2 hcl2 hb02 hb12 hnt02 hnt12 hcv2 hl1 hv1 hl2 hs2 ?_)
  intro h1 tk1 la tl nn hkp hla htl hld hval
  have F1 := F.keeps hkp
  have new : ∀ a, s.heap.get? a = none → a ≠ L ∧ g.get? a = none := by
    intro a ha
    refine ⟨?_, ?_⟩
    · rintro rfl
      obtain ⟨o, _, _, e, _⟩ := F.ns
      rw [ha] at e; cases e
    · cases e : g.get? a with
      | none => rfl
      | some o => have := F.keep _ _ e; rw [ha] at this; cases this
  have N1 : News g L h1 ((la, listOf (tl.map triV).toArray nn) :: (tl.map triO ++ ([(x, instObj 122 dx), (dx, wsD w xt t n tn nt tt tp cnt.length k1 k2 k3 k4 k5), (tp, wsT tc b tb), (tc, wsC us), (x2, instObj 122 dx2), (dx2, wsD w xt2 t2 n2 tn2 nt2 tt2 tp2 cnt2.length k12 k22 k32 k42 k52), (tp2, wsT tc2 b2 tb2), (tc2, wsC us2)] ++ led))) := by
    intro p hp
    rcases List.mem_cons.mp hp with rfl | hp
    · exact ⟨hld, new _ hla⟩
    · rcases List.mem_append.mp hp with hp | hp
      · obtain ⟨e, he, rfl⟩ := List.mem_map.mp hp
        exact ⟨(htl e he).2, new _ (htl e he).1⟩
      · exact N.grown hkp p hp
  have hap : ∀ p ∈ led, p.1 ≠ la ∧ ∀ e ∈ tl, p.1 ≠ e.1 := by
    intro p hp
    have z := (N p (List.mem_append_right _ hp)).1
    refine ⟨?_, ?_⟩
    · intro e; rw [e, hla] at z; cases z
    · intro e he e2; rw [e2, (htl e he).1] at z; cases z
  clear F N
  repeat (first | (k_unfold; (try dsimp only)) | ((fail_if_success (with_reducible show wpAny _ _ (call (Value.ref 133) _) _ _ _)); (fail_if_success (with_reducible show wpAny _ _ (call (Value.ref 140) _) _ _ _)); (fail_if_success (with_reducible show wpAny _ _ (call (Value.ref 122) _) _ _ _)); (fail_if_success (with_reducible show wpAny _ _ (execs _ _) _ _ _)); (fail_if_success (with_reducible show wpAny _ _ (pyIter _) _ _ _)); (fail_if_success (with_reducible show wpAny _ _ (eval (PySem.Expr.ListComp _ _ _ _) _) _ _ _)); (fail_if_success (with_reducible show wpAny _ _ (subscriptTail _ (PySem.Expr.Slice _ _ _ _) _ _) _ _ _)); (fail_if_success (with_reducible show wpAny _ _ (call (Value.ref 119) _) _ _ _)); (fail_if_success (with_reducible show wpAny _ _ (call (Value.ref 112) _) _ _ _)); first | walk1 | (dsimp only; walk1)))
  rename_i F2 N2
  exact h _ _ la nn tl F2 N2 hap hval
theorem kst_back {m : Str → Option Value} {ps : List (Str × Value)} (h1 : ∀ p ∈ ps, m p.1 = some p.2) : kstB m ps = m := by
  induction ps with
  | nil => rfl
  | cons p ps ih =>
    funext y
    have h2 := h1 p List.mem_cons_self
    have h3 := congrFun (ih fun q hq => h1 q (List.mem_cons_of_mem _ hq)) y
    obtain ⟨a, v⟩ := p
    simp only [kstB]
    split
    · rename_i e; rw [e, h2]
    · exact h3
theorem tri_all {h : Heap} : ∀ (tl : List Tri), (∀ e ∈ tl, h.get? e.1 = some (triO e).2) → ReadsAll h (tl.map triV) ((tl.map triI).map triD) []
  | [], _ => .nil
  | e :: tl, hh => ReadsAll.cons (as := []) (bs := []) (.tuple (hh e List.mem_cons_self) rfl rfl (.cons (as := []) (bs := []) (.int _ _) (.cons (as := []) (bs := []) (.int _ _) (.cons (as := []) (bs := []) (.int _ _) .nil)))) (tri_all tl fun e' he => hh e' (List.mem_cons_of_mem _ he))
theorem tri_reads {h : Heap} {a : Addr} {tl : List Tri} {n : Nat} (h1 : h.get? a = some (listOf (tl.map triV).toArray n)) (h2 : ∀ e ∈ tl, h.get? e.1 = some (triO e).2) : Reads h (.ref a) (.list ((tl.map triI).map triD)) [a] :=
  .list h1 rfl rfl (tri_all tl h2)
theorem tri_shaped (l : List (Int × Int × Int)) : PySem.SeqAt.shaped (.list (l.map triD)) = true := by
  have h1 := tri_lay l
  have h2 := tri_depth l
  simp [PySem.SeqAt.shaped, PyData.canLay0, PyData.depth, h1]
  omega
theorem tri_ne {w : World} {A : Around} {E : Value → Shared → Prop} {s : Shared} {a b : Addr} {tl dl : List Tri} {n k : Nat} {Q : Value → Shared → Prop} (h1 : s.heap.get? a = some (listOf (tl.map triV).toArray n)) (h2 : ∀ e ∈ tl, s.heap.get? e.1 = some (triO e).2)
    (h3 : s.heap.get? b = some (listOf (dl.map triV).toArray k)) (h4 : ∀ e ∈ dl, s.heap.get? e.1 = some (triO e).2) (hu : A.units + 64 < cLine) (h : Q (.bool (!decide (tl.map triI = dl.map triI))) s) : wpAny (model Pg w) A (compareOp .NotEq (.ref a) (.ref b)) Q E s := by
  refine ne_dataH (tri_reads h1 h2) (tri_reads h3 h4) (tri_shaped _) (tri_shaped _) hu ?_
  rw [PyData.eqv, tri_eqv]; exact h
theorem tri_nil {w : World} {A : Around} {E : Value → Shared → Prop} {s : Shared} {a b : Addr} {tl : List Tri} {n k : Nat} {Q : Value → Shared → Prop} (h1 : s.heap.get? a = some (listOf (tl.map triV).toArray n)) (h2 : ∀ e ∈ tl, s.heap.get? e.1 = some (triO e).2)
    (h3 : s.heap.get? b = some (listOf #[] k)) (hu : A.units + 64 < cLine) (h : Q (.bool (decide (tl.map triI = []))) s) : wpAny (model Pg w) A (compareOp .Eq (.ref a) (.ref b)) Q E s := by
  refine eq_dataH (tri_reads h1 h2) (tri_reads (tl := []) h3 (fun _ hq => nomatch hq)) (tri_shaped _) (tri_shaped _) hu ?_
  rw [PyData.eqv, tri_eqv]; exact h
theorem tu_if {w : World} {s : Shared} {mean : ExcName → Option Value} {mg mb : Str → Option Value} {Q : Flow → Shared → Prop} {E : Value → Shared → Prop} {name qual : Str} {params : Arguments} {body : List Stmt} {scope : Scope} {dV kV doc pm cdv0 cdv ct oc : Value} {an od : Option Addr} {osl : Array (Option Value)} {fa L : Addr}       {m : Str → Option Value}  {g : Heap} {st : Stmt} {tg it : PySem.Expr} {fb oe : List Stmt} {fpos : Pos} {x dx tp tc : Addr} {us : List Value} {cnt : List Int} {b n nt : Int} {xt : Str} {t tb tn tt k1 k2 k3 k4 k5 : Tok} {x2 dx2 tp2 tc2 : Addr} {us2 : List Value} {cnt2 : List Int} {b2 n2 nt2 : Int} {xt2 : Str} {t2 tb2 tn2 tt2 k12 k22 k32 k42 k52 : Tok} {v1 : Int} {la D : Addr} {nn : Nat} {tl dl : List Tri} {own : List (Addr × Obj)} (hb : (hd.heap_39 w.params).lookup 185 = some ⟨oc, od, .func (fnX name qual params body scope [] dV kV doc pm an cdv0 ct), osl⟩) (hst : body[5]? = some (Stmt.For tg it fb oe fpos)) (hfb : fb[5]? = some st) (X : (hd.heap_39 w.params).In g) (T : Top hd.view_39 (looseW hd.view_39 [Str.ofString "insort_left", Str.ofString "bisect_left", Str.ofString "Whitespace"]) mean mg mb g)
    (hm : ∀ p ∈ [(Str.ofString "witness", Value.ref la), (Str.ofString "due", Value.ref D), (Str.ofString "space", Value.ref x), (Str.ofString "goal", Value.ref x2)], m p.1 = some p.2)
    (F : Fr g L s.heap m) (N : News g L s.heap ((la, listOf (tl.map triV).toArray nn) :: (D, LCg.lst (dl.map triV)) :: ([(x, instObj 122 dx), (dx, wsD w xt t n tn nt tt tp cnt.length k1 k2 k3 k4 k5), (tp, wsT tc b tb), (tc, wsC us), (x2, instObj 122 dx2), (dx2, wsD w xt2 t2 n2 tn2 nt2 tt2 tp2 cnt2.length k12 k22 k32 k42 k52), (tp2, wsT tc2 b2 tb2), (tc2, wsC us2)] ++ own)))
    (htl : ∀ e ∈ tl, triO e ∈ own) (hdl : ∀ e ∈ dl, triO e ∈ own) (heq : tl.map triI = dl.map triI) (hls : lsF cnt b n nt cnt2 b2 n2 nt2 = decide (dl.map triI = []))
    (hi : IntsAre us cnt) (hcl : cnt.length ≤ 42) (hb0 : 0 ≤ b) (hb1 : b ≤ 41) (hnt0 : 0 ≤ nt) (hnt1 : nt ≤ 41) (hcv : ∀ k : Nat, 0 ≤ cnt.getD k 0 ∧ cnt.getD k 0 ≤ 41) (hi2 : IntsAre us2 cnt2) (hcl2 : cnt2.length ≤ 42) (hb02 : 0 ≤ b2) (hb12 : b2 ≤ 41) (hnt02 : 0 ≤ nt2) (hnt12 : nt2 ≤ 41) (hcv2 : ∀ k : Nat, 0 ≤ cnt2.getD k 0 ∧ cnt2.getD k 0 ≤ 41) (hl1 : (if b > (cnt.length : Int) - 1 then b else (cnt.length : Int) - 1) = v1) (hv1 : v1 ≤ 3) (hl2 : (if b2 > (cnt2.length : Int) - 1 then b2 else (cnt2.length : Int) - 1) = 3) (hs2 : 1 < cnt2.length)
    (h : ∀ h' tk', Fr g L h' m → News g L h' ((la, listOf (tl.map triV).toArray nn) :: (D, LCg.lst (dl.map triV)) :: ([(x, instObj 122 dx), (dx, wsD w xt t n tn nt tt tp cnt.length k1 k2 k3 k4 k5), (tp, wsT tc b tb), (tc, wsC us), (x2, instObj 122 dx2), (dx2, wsD w xt2 t2 n2 tn2 nt2 tt2 tp2 cnt2.length k12 k22 k32 k42 k52), (tp2, wsT tc2 b2 tb2), (tc2, wsC us2)] ++ own)) → Q .next { s with heap := h', toks := tk' }) :
    wpAny (model Pg w) (Ar 400 200) (exec st (envOfC qual scope L fa cdv)) Q E s := by
  have e0 := look_eq hb (by k_is)
  revert hst
  refine law_at (P := fun qual body scope => (body[5]? = some (Stmt.For tg it fb oe fpos)) → wpAny (model Pg w) (Ar 400 200) (exec st (envOfC qual scope L fa cdv)) Q E s) e0 ?_
  clear e0 hb
  intro hst
  injection hst with hst
  injection hst with j1 j2 j3 j4 j5
  subst j3
  injection hfb with hfb
  subst hfb
  clear j1 j2 j4 j5

  k_unmd
  replace F := fr_ps0 hm F
  dsimp only [kstB] at F
  repeat (first | (k_unfold; (try dsimp only)) | ((fail_if_success (with_reducible show wpAny _ _ (call (Value.ref 133) _) _ _ _)); (fail_if_success (with_reducible show wpAny _ _ (call (Value.ref 140) _) _ _ _)); (fail_if_success (with_reducible show wpAny _ _ (call (Value.ref 122) _) _ _ _)); (fail_if_success (with_reducible show wpAny _ _ (execs _ _) _ _ _)); (fail_if_success (with_reducible show wpAny _ _ (pyIter _) _ _ _)); (fail_if_success (with_reducible show wpAny _ _ (eval (PySem.Expr.ListComp _ _ _ _) _) _ _ _)); (fail_if_success (with_reducible show wpAny _ _ (subscriptTail _ (PySem.Expr.Slice _ _ _ _) _ _) _ _ _)); (fail_if_success (with_reducible show wpAny _ _ (call (Value.ref 119) _) _ _ _)); (fail_if_success (with_reducible show wpAny _ _ (call (Value.ref 112) _) _ _ _)); (fail_if_success (with_reducible show LCg.CompSrc _ _ _ _ _ _ _ _ _ _ _ _ _ _)); (fail_if_success (with_reducible show LCg.CompEnd _ _ _ _ _ _ _ _ _ _ _ _ _ _)); (fail_if_success (with_reducible show wpAny _ _ (compareOp _ (Value.ref _) (Value.ref _)) _ _ _)); first | walk1 | (dsimp only; walk1)))
  have gw : ∀ {hh : Heap}, News g L hh ((la, listOf (tl.map triV).toArray nn) :: (D, LCg.lst (dl.map triV)) :: ([(x, instObj 122 dx), (dx, wsD w xt t n tn nt tt tp cnt.length k1 k2 k3 k4 k5), (tp, wsT tc b tb), (tc, wsC us), (x2, instObj 122 dx2), (dx2, wsD w xt2 t2 n2 tn2 nt2 tt2 tp2 cnt2.length k12 k22 k32 k42 k52), (tp2, wsT tc2 b2 tb2), (tc2, wsC us2)] ++ own)) → ∀ e, triO e ∈ own → hh.get? e.1 = some (triO e).2 := fun N e he => (N _ (List.mem_cons_of_mem _ (List.mem_cons_of_mem _ (List.mem_append_right [(x, instObj 122 dx), (dx, wsD w xt t n tn nt tt tp cnt.length k1 k2 k3 k4 k5), (tp, wsT tc b tb), (tc, wsC us), (x2, instObj 122 dx2), (dx2, wsD w xt2 t2 n2 tn2 nt2 tt2 tp2 cnt2.length k12 k22 k32 k42 k52), (tp2, wsT tc2 b2 tb2), (tc2, wsC us2)] he)))).1
  refine tri_ne (N _ List.mem_cons_self).1 (fun e he => gw N e (htl e he)) (N _ (List.mem_cons_of_mem _ List.mem_cons_self)).1 (fun e he => gw N e (hdl e he)) (by ke_room) ?_
  rw [decide_eq_true heq]
  repeat (first | (k_unfold; (try dsimp only)) | ((fail_if_success (with_reducible show wpAny _ _ (call (Value.ref 133) _) _ _ _)); (fail_if_success (with_reducible show wpAny _ _ (call (Value.ref 140) _) _ _ _)); (fail_if_success (with_reducible show wpAny _ _ (call (Value.ref 122) _) _ _ _)); (fail_if_success (with_reducible show wpAny _ _ (execs _ _) _ _ _)); (fail_if_success (with_reducible show wpAny _ _ (pyIter _) _ _ _)); (fail_if_success (with_reducible show wpAny _ _ (eval (PySem.Expr.ListComp _ _ _ _) _) _ _ _)); (fail_if_success (with_reducible show wpAny _ _ (subscriptTail _ (PySem.Expr.Slice _ _ _ _) _ _) _ _ _)); (fail_if_success (with_reducible show wpAny _ _ (call (Value.ref 119) _) _ _ _)); (fail_if_success (with_reducible show wpAny _ _ (call (Value.ref 112) _) _ _ _)); (fail_if_success (with_reducible show LCg.CompSrc _ _ _ _ _ _ _ _ _ _ _ _ _ _)); (fail_if_success (with_reducible show LCg.CompEnd _ _ _ _ _ _ _ _ _ _ _ _ _ _)); (fail_if_success (with_reducible show wpAny _ _ (compareOp _ (Value.ref _) (Value.ref _)) _ _ _)); first | walk1 | (dsimp only; walk1)))
  refine lower rfl (by decide) (by decide) (c_less (x := x) (dx := dx) (tp := tp) (tc := tc) (us := us) (cnt := cnt) (b := b) (n := n) (nt := nt) (xt := xt) (t := t) (tb := tb) (tn := tn) (tt := tt) (k1 := k1) (k2 := k2) (k3 := k3) (k4 := k4) (k5 := k5) (x2 := x2) (dx2 := dx2) (tp2 := tp2) (tc2 := tc2) (us2 := us2) (cnt2 := cnt2) (b2 := b2) (n2 := n2) (nt2 := nt2) (xt2 := xt2) (t2 := t2) (tb2 := tb2) (tn2 := tn2) (tt2 := tt2) (k12 := k12) (k22 := k22) (k32 := k32) (k42 := k42) (k52 := k52) F.keep X T (fun p hp => ⟨(N p (List.mem_cons_of_mem _ (List.mem_cons_of_mem _ (List.mem_append_left _ hp)))).1, (N p (List.mem_cons_of_mem _ (List.mem_cons_of_mem _ (List.mem_append_left _ hp)))).2.2⟩) hi hcl hb0 hb1 hnt0 hnt1 hcv hi2 hcl2 hb02 hb12 hnt02 hnt12 hcv2 hl1 hv1 hl2 hs2 ?_)
  intro h1 tk1 hkp
  have F1 := F.keeps hkp
  have N1 := N.grown hkp
  clear F N
  repeat (first | (k_unfold; (try dsimp only)) | ((fail_if_success (with_reducible show wpAny _ _ (call (Value.ref 133) _) _ _ _)); (fail_if_success (with_reducible show wpAny _ _ (call (Value.ref 140) _) _ _ _)); (fail_if_success (with_reducible show wpAny _ _ (call (Value.ref 122) _) _ _ _)); (fail_if_success (with_reducible show wpAny _ _ (execs _ _) _ _ _)); (fail_if_success (with_reducible show wpAny _ _ (pyIter _) _ _ _)); (fail_if_success (with_reducible show wpAny _ _ (eval (PySem.Expr.ListComp _ _ _ _) _) _ _ _)); (fail_if_success (with_reducible show wpAny _ _ (subscriptTail _ (PySem.Expr.Slice _ _ _ _) _ _) _ _ _)); (fail_if_success (with_reducible show wpAny _ _ (call (Value.ref 119) _) _ _ _)); (fail_if_success (with_reducible show wpAny _ _ (call (Value.ref 112) _) _ _ _)); (fail_if_success (with_reducible show LCg.CompSrc _ _ _ _ _ _ _ _ _ _ _ _ _ _)); (fail_if_success (with_reducible show LCg.CompEnd _ _ _ _ _ _ _ _ _ _ _ _ _ _)); (fail_if_success (with_reducible show wpAny _ _ (compareOp _ (Value.ref _) (Value.ref _)) _ _ _)); first | walk1 | (dsimp only; walk1)))
  rename_i l' h2 F2 N2 l2
  refine tri_nil (N2 _ (List.mem_cons_of_mem _ (List.mem_cons_of_mem _ List.mem_cons_self))).1 (fun e he => gw (hh := h2) (fun p hp => N2 p (List.mem_cons_of_mem _ hp)) e (hdl e he)) (N2 _ List.mem_cons_self).1 (by ke_room) ?_
  rw [hls]
  have F3 : Fr g L h2 m := by rw [← kst_back hm]; exact F2
  have N3 : News g L h2 ((la, listOf (tl.map triV).toArray nn) :: (D, LCg.lst (dl.map triV)) :: ([(x, instObj 122 dx), (dx, wsD w xt t n tn nt tt tp cnt.length k1 k2 k3 k4 k5), (tp, wsT tc b tb), (tc, wsC us), (x2, instObj 122 dx2), (dx2, wsD w xt2 t2 n2 tn2 nt2 tt2 tp2 cnt2.length k12 k22 k32 k42 k52), (tp2, wsT tc2 b2 tb2), (tc2, wsC us2)] ++ own)) := fun p hp => N2 p (List.mem_cons_of_mem _ hp)
  clear F2 N2 gw
  generalize decide (dl.map triI = []) = q
  cases q
  · repeat (first | (k_unfold; (try dsimp only)) | ((fail_if_success (with_reducible show wpAny _ _ (call (Value.ref 133) _) _ _ _)); (fail_if_success (with_reducible show wpAny _ _ (call (Value.ref 140) _) _ _ _)); (fail_if_success (with_reducible show wpAny _ _ (call (Value.ref 122) _) _ _ _)); (fail_if_success (with_reducible show wpAny _ _ (execs _ _) _ _ _)); (fail_if_success (with_reducible show wpAny _ _ (pyIter _) _ _ _)); (fail_if_success (with_reducible show wpAny _ _ (eval (PySem.Expr.ListComp _ _ _ _) _) _ _ _)); (fail_if_success (with_reducible show wpAny _ _ (subscriptTail _ (PySem.Expr.Slice _ _ _ _) _ _) _ _ _)); (fail_if_success (with_reducible show wpAny _ _ (call (Value.ref 119) _) _ _ _)); (fail_if_success (with_reducible show wpAny _ _ (call (Value.ref 112) _) _ _ _)); (fail_if_success (with_reducible show LCg.CompSrc _ _ _ _ _ _ _ _ _ _ _ _ _ _)); (fail_if_success (with_reducible show LCg.CompEnd _ _ _ _ _ _ _ _ _ _ _ _ _ _)); (fail_if_success (with_reducible show wpAny _ _ (compareOp _ (Value.ref _) (Value.ref _)) _ _ _)); first | walk1 | (dsimp only; walk1)))
    walk1
    walk1
    exact h _ _ F3 N3
  · repeat (first | (k_unfold; (try dsimp only)) | ((fail_if_success (with_reducible show wpAny _ _ (call (Value.ref 133) _) _ _ _)); (fail_if_success (with_reducible show wpAny _ _ (call (Value.ref 140) _) _ _ _)); (fail_if_success (with_reducible show wpAny _ _ (call (Value.ref 122) _) _ _ _)); (fail_if_success (with_reducible show wpAny _ _ (execs _ _) _ _ _)); (fail_if_success (with_reducible show wpAny _ _ (pyIter _) _ _ _)); (fail_if_success (with_reducible show wpAny _ _ (eval (PySem.Expr.ListComp _ _ _ _) _) _ _ _)); (fail_if_success (with_reducible show wpAny _ _ (subscriptTail _ (PySem.Expr.Slice _ _ _ _) _ _) _ _ _)); (fail_if_success (with_reducible show wpAny _ _ (call (Value.ref 119) _) _ _ _)); (fail_if_success (with_reducible show wpAny _ _ (call (Value.ref 112) _) _ _ _)); (fail_if_success (with_reducible show LCg.CompSrc _ _ _ _ _ _ _ _ _ _ _ _ _ _)); (fail_if_success (with_reducible show LCg.CompEnd _ _ _ _ _ _ _ _ _ _ _ _ _ _)); (fail_if_success (with_reducible show wpAny _ _ (compareOp _ (Value.ref _) (Value.ref _)) _ _ _)); first | walk1 | (dsimp only; walk1)))
    walk1
    walk1
    exact h _ _ F3 N3
def mkF (l : List (Int × Int × Int)) : Int := (l.map fun p => (2 : Int) ^ (4 - p.1).toNat).sum
theorem tu_app {w : World} {s : Shared} {mean : ExcName → Option Value} {mg mb : Str → Option Value} {Q : Flow → Shared → Prop} {E : Value → Shared → Prop} {name qual : Str} {params : Arguments} {body : List Stmt} {scope : Scope} {dV kV doc pm cdv0 cdv ct oc : Value} {an od : Option Addr} {osl : Array (Option Value)} {fa L : Addr}       {m : Str → Option Value}  {g : Heap} {st : Stmt} {tg it : PySem.Expr} {fb oe : List Stmt} {fpos : Pos} {la lm : Addr} {nn n : Nat} {tl : List Tri} {us : List Value} {is : List Int} {oM : Obj} {own : List (Addr × Obj)} (hb : (hd.heap_39 w.params).lookup 185 = some ⟨oc, od, .func (fnX name qual params body scope [] dV kV doc pm an cdv0 ct), osl⟩) (hst : body[5]? = some (Stmt.For tg it fb oe fpos)) (hfb : fb[6]? = some st) (X : (hd.heap_39 w.params).In g) (T : Top hd.view_39 (looseW hd.view_39 [Str.ofString "insort_left", Str.ofString "bisect_left", Str.ofString "Whitespace"]) mean mg mb g)
    (hm : ∀ p ∈ [(Str.ofString "witness", Value.ref la)], m p.1 = some p.2)
    (F : Fr g L s.heap m) (N : News g L s.heap ((la, listOf (tl.map triV).toArray nn) :: (lm, listOf us.toArray n) :: (L + 1 + 1 + 1, oM) :: own)) (dM : oM.data = .cell (some (.ref lm)))
    (htl : ∀ e ∈ tl, triO e ∈ own) (hi : IntsAre us is) (hul : is.length ≤ 4) (htn : tl.length ≤ 4) (hv : ∀ e ∈ tl.map triI, 1 ≤ e.1 ∧ e.1 ≤ 4) (hlm : la ≠ lm) (hlM : lm ≠ L + 1 + 1 + 1) (hoff : ∀ p ∈ own, p.1 ≠ lm)
    (h : ∀ h' tk' us', Fr g L h' m → News g L h' ((la, listOf (tl.map triV).toArray nn) :: (lm, listOf us'.toArray (n + 1)) :: (L + 1 + 1 + 1, oM) :: own) → IntsAre us' (is ++ [mkF (tl.map triI)]) → Q .next { s with heap := h', toks := tk' }) :
    wpAny (model Pg w) (Ar 400 200) (exec st (envOfC qual scope L fa cdv)) Q E s := by
  have e0 := look_eq hb (by k_is)
  revert hst
  refine law_at (P := fun qual body scope => (body[5]? = some (Stmt.For tg it fb oe fpos)) → wpAny (model Pg w) (Ar 400 200) (exec st (envOfC qual scope L fa cdv)) Q E s) e0 ?_
  clear e0 hb
  intro hst
  injection hst with hst
  injection hst with j1 j2 j3 j4 j5
  subst j3
  injection hfb with hfb
  subst hfb
  clear j1 j2 j4 j5

  k_unmd
  replace F := fr_ps0 hm F
  dsimp only [kstB] at F
  repeat (first | (k_unfold; (try dsimp only)) | ((fail_if_success (with_reducible show wpAny _ _ (call (Value.ref 133) _) _ _ _)); (fail_if_success (with_reducible show wpAny _ _ (call (Value.ref 140) _) _ _ _)); (fail_if_success (with_reducible show wpAny _ _ (call (Value.ref 122) _) _ _ _)); (fail_if_success (with_reducible show wpAny _ _ (execs _ _) _ _ _)); (fail_if_success (with_reducible show wpAny _ _ (pyIter _) _ _ _)); (fail_if_success (with_reducible show wpAny _ _ (eval (PySem.Expr.ListComp _ _ _ _) _) _ _ _)); (fail_if_success (with_reducible show wpAny _ _ (subscriptTail _ (PySem.Expr.Slice _ _ _ _) _ _) _ _ _)); (fail_if_success (with_reducible show wpAny _ _ (call (Value.ref 119) _) _ _ _)); (fail_if_success (with_reducible show wpAny _ _ (call (Value.ref 112) _) _ _ _)); (fail_if_success (with_reducible show LCg.CompSrc _ _ _ _ _ _ _ _ _ _ _ _ _ _)); (fail_if_success (with_reducible show LCg.CompEnd _ _ _ _ _ _ _ _ _ _ _ _ _ _)); (fail_if_success (with_reducible show wpAny _ _ (compareOp _ (Value.ref _) (Value.ref _)) _ _ _)); first | walk1 | (dsimp only; walk1)))
  k_dflt (refine' LCg.ListComp_U (L := L) (F₀ := F) ?d1 ?d2 ?d3 ?d4 ?d5 ?_ ?d6)
  case d1 => with_unfolding_all rfl
  case d2 => decide
  case d3 => rfl
  case d4 => decide
  case d5 => rfl
  case d6 => intro _; rfl
  repeat (first | (k_unfold; (try dsimp only)) | ((fail_if_success (with_reducible show wpAny _ _ (call (Value.ref 133) _) _ _ _)); (fail_if_success (with_reducible show wpAny _ _ (call (Value.ref 140) _) _ _ _)); (fail_if_success (with_reducible show wpAny _ _ (call (Value.ref 122) _) _ _ _)); (fail_if_success (with_reducible show wpAny _ _ (execs _ _) _ _ _)); (fail_if_success (with_reducible show wpAny _ _ (pyIter _) _ _ _)); (fail_if_success (with_reducible show wpAny _ _ (eval (PySem.Expr.ListComp _ _ _ _) _) _ _ _)); (fail_if_success (with_reducible show wpAny _ _ (subscriptTail _ (PySem.Expr.Slice _ _ _ _) _ _) _ _ _)); (fail_if_success (with_reducible show wpAny _ _ (call (Value.ref 119) _) _ _ _)); (fail_if_success (with_reducible show wpAny _ _ (call (Value.ref 112) _) _ _ _)); (fail_if_success (with_reducible show LCg.CompSrc _ _ _ _ _ _ _ _ _ _ _ _ _ _)); (fail_if_success (with_reducible show LCg.CompEnd _ _ _ _ _ _ _ _ _ _ _ _ _ _)); (fail_if_success (with_reducible show wpAny _ _ (compareOp _ (Value.ref _) (Value.ref _)) _ _ _)); first | walk1 | (dsimp only; walk1)))
  k_dflt (refine LCg.CompSrc.ledger (by rfl) F N List.mem_cons_self (by rw [PySem.sizeLine_eq]; simp; omega) ?_)
  intro g'
  have hsz : (tl.map triV).toArray.size = tl.length := by simp
  rw [hsz]
  refine cr_inv (fun i ys nx => nx = ((la, listOf (tl.map triV).toArray nn) :: (lm, listOf us.toArray n) :: (L + 1 + 1 + 1, oM) :: own) ∧ IntsAre ys (((tl.map triI).take i).map fun p => (2 : Int) ^ (4 - p.1).toNat)) ?_ ⟨rfl, .nil⟩ ?_
  · rintro i ys nx v I oI C oC' D m₂ h2 tk2 E' hi4 ⟨rfl, hys⟩ hv2 hCo hx2 F2 N2 off2 ne2
    have hvt : v = triV tl[i] := by simpa [hi4] using hv2.symm
    subst hvt
    have het : tl[i] ∈ tl := List.getElem_mem hi4
    have N3 : News g L h2 ((I, oI) :: (C, oC') :: (D, LCg.lst ys) :: triO tl[i] :: (la, listOf (tl.map triV).toArray nn) :: (lm, listOf us.toArray n) :: (L + 1 + 1 + 1, oM) :: own) := fun p hp => N2 p (ins_mem [(I, oI), (C, oC'), (D, LCg.lst ys)] ((la, listOf (tl.map triV).toArray nn) :: (lm, listOf us.toArray n) :: (L + 1 + 1 + 1, oM) :: own) (triO tl[i]) (List.mem_cons_of_mem _ (List.mem_cons_of_mem _ (List.mem_cons_of_mem _ (htl _ het)))) hp)
    have hs1 : ((tl.map triI).take (i + 1)) = (tl.map triI).take i ++ [triI tl[i]] := by simp [List.take_add_one, hi4]
    have hb1 := hv _ (List.mem_map_of_mem het)
    rw [hs1, List.map_append, List.map_singleton]
    clear N2 hv2
    generalize tl[i] = e at *
    obtain ⟨ea, ⟨e1, u1⟩, ⟨e2, u2⟩, ⟨e3, u3⟩⟩ := e
    dsimp only at *
    repeat (first | (k_unfold; (try dsimp only)) | ((fail_if_success (with_reducible show wpAny _ _ (call (Value.ref 133) _) _ _ _)); (fail_if_success (with_reducible show wpAny _ _ (call (Value.ref 140) _) _ _ _)); (fail_if_success (with_reducible show wpAny _ _ (call (Value.ref 122) _) _ _ _)); (fail_if_success (with_reducible show wpAny _ _ (execs _ _) _ _ _)); (fail_if_success (with_reducible show wpAny _ _ (pyIter _) _ _ _)); (fail_if_success (with_reducible show wpAny _ _ (eval (PySem.Expr.ListComp _ _ _ _) _) _ _ _)); (fail_if_success (with_reducible show wpAny _ _ (subscriptTail _ (PySem.Expr.Slice _ _ _ _) _ _) _ _ _)); (fail_if_success (with_reducible show wpAny _ _ (call (Value.ref 119) _) _ _ _)); (fail_if_success (with_reducible show wpAny _ _ (call (Value.ref 112) _) _ _ _)); (fail_if_success (with_reducible show LCg.CompSrc _ _ _ _ _ _ _ _ _ _ _ _ _ _)); (fail_if_success (with_reducible show LCg.CompEnd _ _ _ _ _ _ _ _ _ _ _ _ _ _)); (fail_if_success (with_reducible show wpAny _ _ (compareOp _ (Value.ref _) (Value.ref _)) _ _ _)); first | walk1 | (dsimp only; walk1)))
    exact LCg.CompEnd.intro F2 N3 _ (fun p hp => out_mem [(I, oI), (C, oC'), (D, LCg.lst ys)] _ _ hp) off2 (.inr ⟨_, List.mem_cons_self, rfl, _, rfl⟩) ⟨rfl, IntsAre.append hys (.cons _ _ .nil)⟩
  · rintro ys nx ⟨rfl, hys⟩
    intro D h2 tk2 F2 N2 off2
    dsimp only
    have hlenM : (tl.map triI).length = tl.length := by simp
    rw [← hlenM, List.take_length] at hys
    repeat (first | (k_unfold; (try dsimp only)) | ((fail_if_success (with_reducible show wpAny _ _ (call (Value.ref 133) _) _ _ _)); (fail_if_success (with_reducible show wpAny _ _ (call (Value.ref 140) _) _ _ _)); (fail_if_success (with_reducible show wpAny _ _ (call (Value.ref 122) _) _ _ _)); (fail_if_success (with_reducible show wpAny _ _ (execs _ _) _ _ _)); (fail_if_success (with_reducible show wpAny _ _ (pyIter _) _ _ _)); (fail_if_success (with_reducible show wpAny _ _ (eval (PySem.Expr.ListComp _ _ _ _) _) _ _ _)); (fail_if_success (with_reducible show wpAny _ _ (subscriptTail _ (PySem.Expr.Slice _ _ _ _) _ _) _ _ _)); (fail_if_success (with_reducible show wpAny _ _ (call (Value.ref 119) _) _ _ _)); (fail_if_success (with_reducible show wpAny _ _ (call (Value.ref 112) _) _ _ _)); (fail_if_success (with_reducible show LCg.CompSrc _ _ _ _ _ _ _ _ _ _ _ _ _ _)); (fail_if_success (with_reducible show LCg.CompEnd _ _ _ _ _ _ _ _ _ _ _ _ _ _)); (fail_if_success (with_reducible show wpAny _ _ (compareOp _ (Value.ref _) (Value.ref _)) _ _ _)); first | walk1 | (dsimp only; walk1)))
    rename_i h3 tk3 t3 F3 N3
    have hDlm : D ≠ lm := Ne.symm (off1_mem off2 (lm, listOf us.toArray n) (List.mem_cons_of_mem _ List.mem_cons_self))
    k_dflt (refine append_K F3 N3 (Upd.tail hDlm (Upd.tail hlm (Upd.head (fun p hp => ?_)))) ?_ (by have := hi.length; simp; rw [PySem.sizeLine_eq]; omega))
    · rcases List.mem_cons.mp hp with rfl | hp
      · exact Ne.symm hlM
      · exact hoff p hp
    intro h4 F4 N4
    refine h h4 tk3 (us ++ [Value.int (mkF (tl.map triI)) t3]) (by rw [← kst_back hm]; exact F4) (fun p hp => ?_) (IntsAre.append hi (.cons _ _ .nil))
    rw [← List.push_toArray] at hp
    exact N4 p (List.mem_cons_of_mem _ hp)
end RL
end
section
open PySem PySem.W PyProof.Rows PySem.Calls
namespace RL
def smF (f : Nat → Int) : Nat → Int
  | 0 => 0
  | n + 1 => smF f n + f n
theorem smF_ext {f g : Nat → Int} : ∀ {n : Nat}, (∀ i, i < n → f i = g i) → smF f n = smF g n
  | 0, _ => rfl
  | n + 1, h => by rw [smF, smF, smF_ext (n := n) fun i hi => h i (by omega), h n (by omega)]
theorem smF_zero {f : Nat → Int} : ∀ {n : Nat}, (∀ i, i < n → f i = 0) → smF f n = 0
  | 0, _ => rfl
  | n + 1, h => by rw [smF, smF_zero (n := n) fun i hi => h i (by omega), h n (by omega)]; rfl
theorem smF_tail {f : Nat → Int} {M : Nat} : ∀ {N : Nat}, M ≤ N → (∀ i, M ≤ i → i < N → f i = 0) → smF f N = smF f M
  | 0, h, _ => by rw [Nat.le_zero.mp h]
  | N + 1, h, hz => by
    rcases Nat.eq_or_lt_of_le h with q | q
    · rw [q]
    · rw [smF, smF_tail (N := N) (by omega) fun i h1 h2 => hz i h1 (by omega), hz N (by omega) (by omega)]; omega
theorem smF_add {f : Nat → Int} {b : Nat} {v : Int} : ∀ {N : Nat}, b < N → smF (fun i => f i + if i = b then v else 0) N = smF f N + v
  | 0, h => by omega
  | N + 1, h => by
    rcases Nat.eq_or_lt_of_le (Nat.lt_succ_iff.mp h) with q | q
    · subst q
      rw [smF, smF, if_pos rfl, smF_ext (n := b) (g := f) fun i hi => by rw [if_neg (by omega)]; omega]
      omega
    · rw [smF, smF, smF_add q, if_neg (by omega)]
      omega
def gI (cnt : List Int) (z i : Nat) : Int := (i : Int).fdiv z * cnt.getD i 0
theorem fold_il (cnt : List Int) (z m : Nat) : ∀ a, (rangeKs z m).foldl (ilG cnt z) a = a + (smF (gI cnt z) (z + m) - smF (gI cnt z) z) := by
  induction m with
  | zero => intro a; simp [rangeKs]
  | succ m ih =>
    intro a
    have e : rangeKs z (m + 1) = rangeKs z m ++ [(z : Int) + (m : Int)] := by simp [rangeKs, List.range_succ]
    rw [e, List.foldl_append, ih, List.foldl_cons, List.foldl_nil, ilG]
    have e2 : ((z : Int) + (m : Int)) = ((z + m : Nat) : Int) := by omega
    have e3 : z + (m + 1) = (z + m) + 1 := by omega
    rw [e2, Int.toNat_natCast, e3, smF, gI]
    omega
theorem fdiv_small {i z : Nat} (h : i < z) : (i : Int).fdiv z = 0 := by
  rw [Int.fdiv_eq_ediv_of_nonneg _ (by omega)]
  exact Int.ediv_eq_zero_of_lt (by omega) (by omega)
theorem lv_eq (cnt : List Int) (b nt : Int) (z : Nat) : lvF cnt b nt z = b + z * (smF (gI cnt z) cnt.length + nt) := by
  unfold lvF
  rw [fold_il]
  have e0 : smF (gI cnt z) z = 0 := smF_zero fun i hi => by rw [gI, fdiv_small hi, Int.zero_mul]
  rw [e0]
  rcases Nat.lt_or_ge cnt.length z with q | q
  · have e1 : ((cnt.length : Int) - (z : Int)).toNat = 0 := by omega
    have e2 : smF (gI cnt z) cnt.length = 0 := smF_zero fun i hi => by rw [gI, fdiv_small (by omega), Int.zero_mul]
    rw [e1, Nat.add_zero, e0, e2]; simp
  · have e1 : z + ((cnt.length : Int) - (z : Int)).toNat = cnt.length := by omega
    rw [e1]; simp
theorem getD_rep (l : List Int) (k i : Nat) : (l ++ List.replicate k 0).getD i 0 = l.getD i 0 := by
  rw [List.getD_eq_getElem?_getD, List.getD_eq_getElem?_getD, List.getElem?_append]
  split
  · rfl
  · rename_i h
    rw [List.getElem?_eq_none (l := l) (by omega), List.getElem?_replicate]
    split <;> rfl
theorem getD_set (l : List Int) (k i : Nat) (hk : k < l.length) : (l.set k (l.getD k 0 + 1)).getD i 0 = l.getD i 0 + if i = k then 1 else 0 := by
  rw [List.getD_eq_getElem?_getD, List.getD_eq_getElem?_getD, List.getD_eq_getElem?_getD, List.getElem?_set]
  by_cases h : k = i
  · subst h
    simp [hk]
  · rw [if_neg h, if_neg (fun e => h e.symm)]; omega
theorem ws_tab (cnt : List Int) (k : Nat) (n nt : Int) : ∃ cnt', wsG (cnt, (k : Int), n, nt) 9 = (cnt', 0, n + 1, nt + 1) ∧ cnt'.length = max cnt.length (k + 1) ∧ ∀ i, cnt'.getD i 0 = cnt.getD i 0 + if i = k then 1 else 0 := by
  unfold wsG
  rw [if_neg (by decide)]
  dsimp only
  split
  · rename_i h
    have e : ((k : Int) - (cnt.length : Int) + 1).toNat = k - cnt.length + 1 := by omega
    refine ⟨_, rfl, ?_, ?_⟩
    · rw [List.length_set, List.length_append, List.length_replicate, e]; omega
    · intro i
      rw [Int.toNat_natCast, getD_set _ _ _ (by rw [List.length_append, List.length_replicate, e]; omega), getD_rep]
  · rename_i h
    refine ⟨_, rfl, ?_, ?_⟩
    · rw [List.length_set]; omega
    · intro i
      rw [Int.toNat_natCast, getD_set _ _ _ (by omega)]
theorem co_tab (cnt cnt' : List Int) (k z : Nat) (nt : Int) (hz : 1 ≤ z) (hl : cnt'.length = max cnt.length (k + 1)) (hg : ∀ i, cnt'.getD i 0 = cnt.getD i 0 + if i = k then 1 else 0) :
    coG z (lvF cnt k nt z) 9 = lvF cnt' 0 (nt + 1) z := by
  unfold coG
  rw [if_neg (by decide), lv_eq, lv_eq]
  have e1 : smF (gI cnt' z) cnt'.length = smF (gI cnt z) cnt.length + (k : Int).fdiv z := by
    rw [smF_ext (g := fun i => gI cnt z i + if i = k then (k : Int).fdiv z else 0) fun i _ => by
      rw [gI, gI, hg i, Int.mul_add]
      split
      · rename_i e; rw [e]; omega
      · omega]
    rw [smF_add (by omega)]
    rw [smF_tail (f := gI cnt z) (M := cnt.length) (by omega) fun i h1 _ => by rw [gI, List.getD_eq_getElem?_getD, List.getElem?_eq_none h1]; simp]
  rw [e1]
  have e2 : ((k : Int) + z * (smF (gI cnt z) cnt.length + nt)).fdiv z = (k : Int).fdiv z + (smF (gI cnt z) cnt.length + nt) := by
    rw [Int.fdiv_eq_ediv_of_nonneg _ (by omega), Int.fdiv_eq_ediv_of_nonneg _ (by omega)]
    exact Int.add_mul_ediv_left _ _ (by omega)
  rw [e2]
  generalize smF (gI cnt z) cnt.length = S
  generalize (k : Int).fdiv z = d
  rw [Int.zero_add, Int.mul_comm]
  congr 1
  omega
theorem co_ws (z : Nat) (hz : 1 ≤ z) : ∀ (ks cnt : List Int) (b n nt : Int), (∀ c ∈ ks, c = 32 ∨ c = 9) → 0 ≤ b →
    ks.foldl (coG z) (lvF cnt b nt z) = lvF (ks.foldl wsG (cnt, b, n, nt)).1 (ks.foldl wsG (cnt, b, n, nt)).2.1 (ks.foldl wsG (cnt, b, n, nt)).2.2.2 z
  | [], _, _, _, _, _, _ => rfl
  | c :: ks, cnt, b, n, nt, hc, hb => by
    rw [List.foldl_cons, List.foldl_cons]
    rcases hc c List.mem_cons_self with rfl | rfl
    · have e1 : coG z (lvF cnt b nt z) 32 = lvF cnt (b + 1) nt z := by unfold coG lvF; rw [if_pos rfl]; omega
      have e2 : wsG (cnt, b, n, nt) 32 = (cnt, b + 1, n + 1, nt) := by unfold wsG; rw [if_pos rfl]
      rw [e1, e2]
      exact co_ws z hz ks cnt (b + 1) (n + 1) nt (fun c hc' => hc c (List.mem_cons_of_mem _ hc')) (by omega)
    · obtain ⟨k, rfl⟩ : ∃ k : Nat, b = (k : Int) := ⟨b.toNat, by omega⟩
      obtain ⟨cnt', e, hl, hg⟩ := ws_tab cnt k n nt
      rw [e, co_tab cnt cnt' k z nt hz hl hg]
      exact co_ws z hz ks cnt' 0 (n + 1) (nt + 1) (fun c hc' => hc c (List.mem_cons_of_mem _ hc')) (by omega)
theorem ws_n : ∀ (ks : List Int) (a : List Int × Int × Int × Int), (ks.foldl wsG a).2.2.1 = a.2.2.1 + ks.length
  | [], a => by simp
  | c :: ks, a => by
    rw [List.foldl_cons, ws_n ks]
    have : (wsG a c).2.2.1 = a.2.2.1 + 1 := by unfold wsG; split; rfl; split <;> rfl
    rw [this, List.length_cons]; omega
theorem co_one : ∀ (ks : List Int) (a : Int), ks.foldl (coG 1) a = a + ks.length
  | [], a => by simp
  | c :: ks, a => by
    rw [List.foldl_cons, co_one ks]
    have : coG 1 a c = a + 1 := by
      unfold coG
      split
      · rfl
      · rw [Int.fdiv_eq_ediv_of_nonneg _ (by decide)]; omega
    rw [this, List.length_cons]; omega
theorem co_lv {xt : Str} {cnt : List Int} {b n nt : Int} (hxt : ∀ c ∈ KStt.codes xt, c = 32 ∨ c = 9) (he : (cnt, b, n, nt) = (KStt.codes xt).foldl wsG ([], 0, 0, 0)) {z : Nat} (hz : 1 ≤ z) : coF xt z = lvF cnt b nt z := by
  have h := co_ws z hz (KStt.codes xt) [] 0 0 0 hxt (by decide)
  rw [← he] at h
  have e : lvF [] 0 0 z = 0 := by rw [lv_eq]; simp [smF]
  rw [e] at h
  exact h
theorem co_n {xt : Str} {cnt : List Int} {b n nt : Int} (he : (cnt, b, n, nt) = (KStt.codes xt).foldl wsG ([], 0, 0, 0)) : coF xt 1 = n := by
  have h := ws_n (KStt.codes xt) ([], 0, 0, 0)
  rw [← he] at h
  unfold coF
  rw [co_one]
  dsimp only at h
  omega
theorem ks1 : rangeKs 1 4 = [1, 2, 3, 4] := by decide
theorem ks2 : rangeKs 2 3 = [2, 3, 4] := by decide
theorem if_appA {α : Type} {c : Prop} [Decidable c] {l : List α} {x : α} : (if c then l ++ [x] else l) = l ++ (if c then [x] else []) := by
  by_cases h : c
  · rw [if_pos h, if_pos h]
  · rw [if_neg h, if_neg h, List.append_nil]
theorem du_nil {α : Type} (p1 p2 p3 p4 : Prop) [Decidable p1] [Decidable p2] [Decidable p3] [Decidable p4] (e1 e2 e3 e4 : α) : (!decide p1 && (!decide p2 && (!decide p3 && (!decide p4 && true)))) = decide ([] ++ (if p1 then [e1] else []) ++ (if p2 then [e2] else []) ++ (if p3 then [e3] else []) ++ (if p4 then [e4] else []) = []) := by
  by_cases h1 : p1 <;> by_cases h2 : p2 <;> by_cases h3 : p3 <;> by_cases h4 : p4 <;> simp [h1, h2, h3, h4]
theorem nl_du {xt yt : Str} {cnt cnt2 : List Int} {b n nt b2 n2 nt2 : Int} (hxt : ∀ c ∈ KStt.codes xt, c = 32 ∨ c = 9) (he : (cnt, b, n, nt) = (KStt.codes xt).foldl wsG ([], 0, 0, 0)) (hyt : ∀ c ∈ KStt.codes yt, c = 32 ∨ c = 9) (he2 : (cnt2, b2, n2, nt2) = (KStt.codes yt).foldl wsG ([], 0, 0, 0)) :
    nlF cnt b nt cnt2 b2 nt2 = duF (coL xt) (coL yt) ∧ lsF cnt b n nt cnt2 b2 n2 nt2 = decide (duF (coL xt) (coL yt) = []) := by
  have c1 := co_lv hxt he (z := 1) (by decide)
  have c2 := co_lv hxt he (z := 2) (by decide)
  have c3 := co_lv hxt he (z := 3) (by decide)
  have c4 := co_lv hxt he (z := 4) (by decide)
  have d1 := co_lv hyt he2 (z := 1) (by decide)
  have d2 := co_lv hyt he2 (z := 2) (by decide)
  have d3 := co_lv hyt he2 (z := 3) (by decide)
  have d4 := co_lv hyt he2 (z := 4) (by decide)
  have n1 := co_n he
  have n2' := co_n he2
  simp only [Int.natCast_one, Int.cast_ofNat_Int] at c1 c2 c3 c4 d1 d2 d3 d4
  have g0 : ((1 : Int) - 1).toNat = 0 := rfl
  have g1 : ((2 : Int) - 1).toNat = 1 := rfl
  have g2 : ((3 : Int) - 1).toNat = 2 := rfl
  have g3 : ((4 : Int) - 1).toNat = 3 := rfl
  unfold nlF lsF duF
  rw [ks1, ks2]
  simp only [List.foldl_cons, List.foldl_nil, nlG, duG, g0, g1, g2, g3, List.all_cons, List.all_nil, lsB, coL, List.getD_cons_zero, List.getD_cons_succ]
  rw [← c1, ← c2, ← c3, ← c4, ← d1, ← d2, ← d3, ← d4, ← n1, ← n2']
  refine ⟨rfl, ?_⟩
  simp only [if_appA]
  exact du_nil _ _ _ _ _ _ _ _
theorem mk_snoc (l : List (Int × Int × Int)) (e : Int × Int × Int) : mkF (l ++ [e]) = mkF l + 2 ^ (4 - e.1).toNat := by
  unfold mkF
  rw [List.map_append, List.sum_append_int, List.map_singleton, List.sum_singleton]
theorem p2_pos (n : Nat) : (0 : Int) ≤ 2 ^ n := Int.le_of_lt (Int.pow_pos (by decide))
theorem du_go (cs bs : List Int) : ∀ (ks : List Int) (l : List (Int × Int × Int)), (∀ k ∈ ks, 1 ≤ k ∧ k ≤ 4) → (∀ e ∈ l, 1 ≤ e.1 ∧ e.1 ≤ 4) → 0 ≤ mkF l →
    (ks.foldl (duG cs bs) l).length ≤ l.length + ks.length ∧ (∀ e ∈ ks.foldl (duG cs bs) l, 1 ≤ e.1 ∧ e.1 ≤ 4) ∧ 0 ≤ mkF (ks.foldl (duG cs bs) l) ∧ mkF (ks.foldl (duG cs bs) l) ≤ mkF l + (ks.map fun k => (2 : Int) ^ (4 - k).toNat).sum
  | [], l, _, hl, h0 => ⟨Nat.le_refl _, hl, h0, by rw [List.map_nil, List.sum_nil, Int.add_zero]; exact Int.le_refl _⟩
  | k :: ks, l, hk, hl, h0 => by
    have hp := p2_pos (4 - k).toNat
    have hk1 := hk k List.mem_cons_self
    rw [List.foldl_cons, List.map_cons, List.sum_cons, List.length_cons]
    have step : (duG cs bs l k).length ≤ l.length + 1 ∧ (∀ e ∈ duG cs bs l k, 1 ≤ e.1 ∧ e.1 ≤ 4) ∧ 0 ≤ mkF (duG cs bs l k) ∧ mkF (duG cs bs l k) ≤ mkF l + 2 ^ (4 - k).toNat := by
      unfold duG
      split
      · rw [mk_snoc]
        refine ⟨by rw [List.length_append]; exact Nat.le_refl _, fun e he => ?_, Int.add_nonneg h0 hp, Int.le_refl _⟩
        rcases List.mem_append.mp he with he | he
        · exact hl e he
        · rw [List.mem_singleton.mp he]; exact hk1
      · exact ⟨Nat.le_succ _, hl, h0, Int.le_add_of_nonneg_right hp⟩
    obtain ⟨a1, a2, a3, a4⟩ := step
    obtain ⟨b1, b2, b3, b4⟩ := du_go cs bs ks (duG cs bs l k) (fun k' h => hk k' (List.mem_cons_of_mem _ h)) a2 a3
    exact ⟨by omega, b2, b3, by omega⟩
theorem du_facts (cs bs : List Int) : (duF cs bs).length ≤ 4 ∧ (∀ e ∈ duF cs bs, 1 ≤ e.1 ∧ e.1 ≤ 4) ∧ 0 ≤ mkF (duF cs bs) ∧ mkF (duF cs bs) < 16 := by
  obtain ⟨b1, b2, b3, b4⟩ := du_go cs bs [1, 2, 3, 4] [] (by decide) (fun _ h => nomatch h) (by decide)
  unfold duF
  rw [ks1]
  have e : ([1, 2, 3, 4].map fun k : Int => (2 : Int) ^ (4 - k).toNat).sum = 15 := by decide
  have e0 : mkF [] = 0 := rfl
  rw [e, e0] at b4
  exact ⟨b1, b2, b3, by omega⟩
/-- What holds of the state of a text whose runs are at most three long. -/
def WsI (a : List Int × Int × Int × Int) : Prop := 0 ≤ a.2.1 ∧ a.2.1 ≤ 3 ∧ 0 ≤ a.2.2.2 ∧ a.1.length ≤ 4 ∧ ∀ k : Nat, 0 ≤ a.1.getD k 0 ∧ a.1.getD k 0 ≤ a.2.2.2
theorem codes_app (a b : Str) : KStt.codes (a ++ b) = KStt.codes a ++ KStt.codes b := by
  unfold KStt.codes
  have e : (a ++ b).cps = a.cps ++ b.cps := rfl
  rw [e, Array.toList_append, List.map_append]
theorem codes_mul (n : Int) : KStt.codes (Txt.mul (Str.ofString " ") (n.fmod 4)) = List.replicate (n.fmod 4).toNat 32 := by
  rcases fmod4 n with h | h | h | h <;> rw [h] <;> decide +kernel
theorem codes_tab : KStt.codes (Str.ofString "\t") = [9] := by decide +kernel
theorem codes_nil : KStt.codes (Str.ofString "") = [] := by decide +kernel
theorem codes_head : KStt.codes (Str.ofString "   \t") = [32, 32, 32, 9] := by decide +kernel
theorem ws_blanks : ∀ (j : Nat) (a : List Int × Int × Int × Int), (List.replicate j (32 : Int)).foldl wsG a = (a.1, a.2.1 + j, a.2.2.1 + j, a.2.2.2)
  | 0, a => by simp
  | j + 1, a => by
    rw [List.replicate_succ, List.foldl_cons, ws_blanks j]
    unfold wsG
    rw [if_pos rfl]
    simp only [Prod.mk.injEq, true_and, and_true]
    omega
theorem fmod4_b (n : Int) : 0 ≤ n.fmod 4 ∧ n.fmod 4 ≤ 3 := by rcases fmod4 n with h | h | h | h <;> rw [h] <;> decide
theorem ws_piece {cnt : List Int} {n nt x : Int} (h : WsI (cnt, 0, n, nt)) : ∃ cnt' n', (List.replicate (x.fmod 4).toNat (32 : Int) ++ [9]).foldl wsG (cnt, 0, n, nt) = (cnt', 0, n', nt + 1) ∧ WsI (cnt', 0, n', nt + 1) ∧ cnt.length ≤ cnt'.length := by
  obtain ⟨f0, f1⟩ := fmod4_b x
  rw [List.foldl_append, ws_blanks, List.foldl_cons, List.foldl_nil]
  dsimp only
  rw [Int.zero_add]
  obtain ⟨cnt', e, hl, hg⟩ := ws_tab cnt (x.fmod 4).toNat (n + ((x.fmod 4).toNat : Int)) nt
  obtain ⟨i1, i2, i3, i4, i5⟩ := h
  dsimp only at i1 i2 i3 i4 i5
  refine ⟨cnt', _, e, ⟨Int.le_refl _, (by decide : (0 : Int) ≤ 3), (by dsimp only; omega), (by dsimp only; omega), fun k => ?_⟩, by omega⟩
  dsimp only
  have := i5 k
  rw [hg k]
  split <;> omega
theorem ws_it {cnt : List Int} {n nt x : Int} (h : WsI (cnt, 0, n, nt)) : ∀ k : Nat, ∃ cnt' n', (KStt.codes (ldIt k (Str.ofString "", x)).1).foldl wsG (cnt, 0, n, nt) = (cnt', 0, n', nt + k) ∧ WsI (cnt', 0, n', nt + k) ∧ cnt.length ≤ cnt'.length
  | 0 => ⟨cnt, n, by rw [ldIt, codes_nil]; simp, by simpa using h, Nat.le_refl _⟩
  | k + 1 => by
    obtain ⟨c1, n1, e1, w1, l1⟩ := ws_it h k
    obtain ⟨c2, n2, e2, w2, l2⟩ := ws_piece (x := (ldIt k (Str.ofString "", x)).2) w1
    refine ⟨c2, n2, ?_, ?_, by omega⟩
    · rw [ldIt, ldS]
      dsimp only
      rw [codes_app, codes_app, codes_mul, codes_tab, List.foldl_append, e1, e2]
      simp; omega
    · rw [show nt + ((k + 1 : Nat) : Int) = nt + (k : Int) + 1 by omega]; exact w2
theorem ws_ld {cnt : List Int} {n nt x k : Int} (h : WsI (cnt, 0, n, nt)) (hk : 0 ≤ k) : WsI ((KStt.codes (ldF x k)).foldl wsG (cnt, 0, n, nt)) ∧ ((KStt.codes (ldF x k)).foldl wsG (cnt, 0, n, nt)).2.2.2 = nt + k ∧ cnt.length ≤ ((KStt.codes (ldF x k)).foldl wsG (cnt, 0, n, nt)).1.length := by
  obtain ⟨c1, n1, e1, w1, l1⟩ := ws_it (x := x) h k.toNat
  unfold ldF
  rw [codes_app, codes_mul, List.foldl_append, e1, ws_blanks]
  obtain ⟨f0, f1⟩ := fmod4_b (ldIt k.toNat (Str.ofString "", x)).2
  obtain ⟨i1, i2, i3, i4, i5⟩ := w1
  dsimp only at i1 i2 i3 i4 i5
  refine ⟨⟨by dsimp only; omega, by dsimp only; omega, i3, i4, i5⟩, by dsimp only; omega, l1⟩
theorem ld_codes (x k : Int) : ∀ c ∈ KStt.codes (ldF x k), c = 32 ∨ c = 9 := by
  have it : ∀ n : Nat, ∀ c ∈ KStt.codes (ldIt n (Str.ofString "", x)).1, c = 32 ∨ c = 9 := by
    intro n
    induction n with
    | zero => rw [ldIt, codes_nil]; intro c hc; cases hc
    | succ n ih =>
      intro c hc
      rw [ldIt, ldS] at hc
      dsimp only at hc
      rw [codes_app, codes_app, codes_mul, codes_tab] at hc
      rcases List.mem_append.mp hc with hc | hc
      · exact ih c hc
      · rcases List.mem_append.mp hc with hc | hc
        · exact .inl (List.eq_of_mem_replicate hc)
        · exact .inr (List.mem_singleton.mp hc)
  intro c hc
  unfold ldF at hc
  rw [codes_app, codes_mul] at hc
  rcases List.mem_append.mp hc with hc | hc
  · exact it _ c hc
  · exact .inl (List.eq_of_mem_replicate hc)
theorem ld_facts {cnt : List Int} {b n nt x k : Int} (hk : 0 ≤ k) (hk3 : k ≤ 3) (he : (cnt, b, n, nt) = (KStt.codes (ldF x k)).foldl wsG ([], 0, 0, 0)) :
    cnt.length ≤ 42 ∧ 0 ≤ b ∧ b ≤ 41 ∧ 0 ≤ nt ∧ nt ≤ 41 ∧ (∀ k : Nat, 0 ≤ cnt.getD k 0 ∧ cnt.getD k 0 ≤ 41) ∧ (if b > (cnt.length : Int) - 1 then b else (cnt.length : Int) - 1) ≤ 3 := by
  have h0 : WsI ([], 0, 0, 0) := ⟨by decide, by decide, by decide, by decide, fun k => by simp⟩
  obtain ⟨w, e1, _⟩ := ws_ld (x := x) h0 hk
  rw [← he] at w e1
  obtain ⟨i1, i2, i3, i4, i5⟩ := w
  dsimp only at i1 i2 i3 i4 i5 e1
  refine ⟨by omega, i1, by omega, i3, by omega, fun k => ?_, by split <;> omega⟩
  have := i5 k
  omega
theorem aim_codes (x k : Int) : ∀ c ∈ KStt.codes (Str.ofString "   \t" ++ ldF x k), c = 32 ∨ c = 9 := by
  intro c hc
  rw [codes_app, codes_head] at hc
  rcases List.mem_append.mp hc with hc | hc
  · simp at hc; omega
  · exact ld_codes x k c hc
theorem aim_len (x k : Int) (hk : k ≤ 3) : (Str.ofString "   \t" ++ ldF x k).length ≤ 40 := by
  rw [str_app]
  have h1 := ldF_len x k hk
  have h2 : (Str.ofString "   \t").length = 4 := by decide +kernel
  omega
theorem aim_facts {cnt : List Int} {b n nt x k : Int} (hk : 0 ≤ k) (hk3 : k ≤ 3) (he : (cnt, b, n, nt) = (KStt.codes (Str.ofString "   \t" ++ ldF x k)).foldl wsG ([], 0, 0, 0)) :
    cnt.length ≤ 42 ∧ 0 ≤ b ∧ b ≤ 41 ∧ 0 ≤ nt ∧ nt ≤ 41 ∧ (∀ k : Nat, 0 ≤ cnt.getD k 0 ∧ cnt.getD k 0 ≤ 41) ∧ (if b > (cnt.length : Int) - 1 then b else (cnt.length : Int) - 1) = 3 ∧ 1 < cnt.length := by
  have es : ([32, 32, 32, 9] : List Int).foldl wsG ([], 0, 0, 0) = ([0, 0, 0, 1], 0, 4, 1) := by decide
  rw [codes_app, codes_head, List.foldl_append, es] at he
  have h0 : WsI ([0, 0, 0, 1], 0, 4, 1) := by
    refine ⟨by decide, by decide, by decide, by decide, fun k => ?_⟩
    rcases k with _ | _ | _ | _ | k <;> simp
  obtain ⟨w, e1, e2⟩ := ws_ld (x := x) h0 hk
  rw [← he] at w e1 e2
  obtain ⟨i1, i2, i3, i4, i5⟩ := w
  dsimp only at i1 i2 i3 i4 i5 e1 e2
  have e3 : ([0, 0, 0, 1] : List Int).length = 4 := rfl
  refine ⟨by omega, i1, by omega, i3, by omega, fun k => ?_, by split <;> omega, by omega⟩
  have := i5 k
  omega
end RL
end
section
open PySem PySem.W PyProof.Rows PySem.Calls
namespace RL
theorem mem_mid {α : Type} (a b c : List α) {p : α} (h : p ∈ a ++ c) : p ∈ a ++ (b ++ c) := by
  rcases List.mem_append.mp h with h | h
  · exact List.mem_append_left _ h
  · exact List.mem_append_right _ (List.mem_append_right _ h)
theorem slice_one {vs : List Value} {ns : List Int} (h : IntsAre vs ns) (hn : ns.length = 5) : IntsAre (slicePick vs.toArray (some 1) none none).toList (ns.drop 1) := by
  cases h with
  | nil => cases hn
  | cons a ta h => cases h with
    | nil => cases hn
    | cons b tb h => cases h with
      | nil => cases hn
      | cons c tc h => cases h with
        | nil => cases hn
        | cons d td h => cases h with
          | nil => cases hn
          | cons e te h => cases h with
            | nil =>
              have e0 : slicePick #[Value.int a ta, Value.int b tb, Value.int c tc, Value.int d td, Value.int e te] (some 1) none none = #[Value.int b tb, Value.int c tc, Value.int d td, Value.int e te] := by
                simp only [slicePick, sliceBounds, sliceRange]
                have e2 : max 0 (min 1 5) = (1 : Int) := by decide
                simp [e2, List.range_succ]
                try rfl
              show IntsAre (slicePick #[Value.int a ta, Value.int b tb, Value.int c tc, Value.int d td, Value.int e te] (some 1) none none).toList _
              rw [e0]
              exact .cons _ _ (.cons _ _ (.cons _ _ (.cons _ _ .nil)))
            | cons f tf h => cases hn
def tmF (yt : Str) (k : Int) : Int := mkF (duF (coL (ldF (Int.fdiv k 3) (1 + Int.fmod k 3))) (coL yt))
theorem st_loop {w : World} {s : Shared} {mean : ExcName → Option Value} {mg mb : Str → Option Value} {Q : Flow → Shared → Prop}  {name qual : Str} {params : Arguments} {body : List Stmt} {scope : Scope} {dV kV doc pm cdv0 cdv ct oc : Value} {an od : Option Addr} {osl : Array (Option Value)} {fa L : Addr}   {led : List (Addr × Obj)} {lc : Addr} {us : List Value} {ks : List Int} {m : Str → Option Value} {oC oM oB : Obj} {g : Heap} {st : Stmt} {x2 dx2 tp2 tc2 : Addr} {us2 : List Value} {cnt2 : List Int} {b2 n2 nt2 : Int} {xt2 : Str} {t2 tb2 tn2 tt2 k12 k22 k32 k42 k52 : Tok} {lb lm : Addr} {ub : List Value} {nb : Nat} {v₀ : Option Value} {ax ak : Int} (hb : (hd.heap_39 w.params).lookup 185 = some ⟨oc, od, .func (fnX name qual params body scope [] dV kV doc pm an cdv0 ct), osl⟩) (hst : body[5]? = some st) (X : (hd.heap_39 w.params).In g) (T : Top hd.view_39 (looseW hd.view_39 [Str.ofString "insort_left", Str.ofString "bisect_left", Str.ofString "Whitespace"]) mean mg mb g)
    (F : Fr g L s.heap m) (hmc : m (Str.ofString "cells") = some (.ref lc)) (hmg : m (Str.ofString "goal") = some (.ref x2))
    (N : News g L s.heap ((lc, LCg.lst us) :: (L + 1 + 1 + 1 + 1, oC) :: (lm, listOf #[] 0) :: (L + 1 + 1 + 1, oM) :: (L + 1 + 1, oB) :: (lb, listOf ub.toArray nb) :: (x2, instObj 122 dx2) :: (dx2, wsD w xt2 t2 n2 tn2 nt2 tt2 tp2 cnt2.length k12 k22 k32 k42 k52) :: (tp2, wsT tc2 b2 tb2) :: (tc2, wsC us2) :: led)) (dC : oC.data = .cell v₀) (dM : oM.data = .cell (some (.ref lm))) (dB : oB.data = .cell (some (.ref lb)))
    (hi : IntsAre us ks) (hn : ks.length = 5) (hk : ∀ k ∈ ks, 0 ≤ k)
    (hxt : xt2 = Str.ofString "   \t" ++ ldF ax ak) (hak0 : 0 ≤ ak) (hak1 : ak ≤ 3) (hib : IntsAre ub (coL xt2)) (hi2 : IntsAre us2 cnt2) (he2 : (cnt2, b2, n2, nt2) = (KStt.codes xt2).foldl wsG ([], 0, 0, 0))
    (hCo : ∀ p ∈ (lm, listOf #[] 0) :: (L + 1 + 1 + 1, oM) :: (L + 1 + 1, oB) :: (lb, listOf ub.toArray nb) :: (x2, instObj 122 dx2) :: (dx2, wsD w xt2 t2 n2 tn2 nt2 tt2 tp2 cnt2.length k12 k22 k32 k42 k52) :: (tp2, wsT tc2 b2 tb2) :: (tc2, wsC us2) :: led, p.1 ≠ L + 1 + 1 + 1 + 1) (hlm : ∀ p ∈ (L + 1 + 1 + 1, oM) :: (L + 1 + 1, oB) :: (lb, listOf ub.toArray nb) :: (x2, instObj 122 dx2) :: (dx2, wsD w xt2 t2 n2 tn2 nt2 tt2 tp2 cnt2.length k12 k22 k32 k42 k52) :: (tp2, wsT tc2 b2 tb2) :: (tc2, wsC us2) :: led, p.1 ≠ lm)
    (h : ∀ h' tk' m' vm nm oC' v', Fr g L h' m' → News g L h' ((L + 1 + 1 + 1 + 1, oC') :: (lm, listOf (List.toArray vm) nm) :: (L + 1 + 1 + 1, oM) :: (L + 1 + 1, oB) :: (lb, listOf ub.toArray nb) :: (x2, instObj 122 dx2) :: (dx2, wsD w xt2 t2 n2 tn2 nt2 tt2 tp2 cnt2.length k12 k22 k32 k42 k52) :: (tp2, wsT tc2 b2 tb2) :: (tc2, wsC us2) :: led) → oC'.data = .cell v' → IntsAre vm ((ks.drop 1).map (tmF xt2)) → Q .next { s with heap := h', toks := tk' }) :
    wpAny (model Pg w) (Ar 400 200) (exec st (envOfC qual scope L fa cdv)) Q (fun _ _ => False) s := by
  have hb' := hb
  subst hxt
  have e0 := look_eq hb (by k_is)
  revert hst
  revert hb'
  refine law_at (P := fun qual body scope => ((hd.heap_39 w.params).lookup 185 = some ⟨oc, od, .func (fnX name qual params body scope [] dV kV doc pm an cdv0 ct), osl⟩) → (body[5]? = some st) → wpAny (model Pg w) (Ar 400 200) (exec st (envOfC qual scope L fa cdv)) Q (fun _ _ => False) s) e0 ?_
  clear e0 hb
  intro hb' hst
  injection hst with hst
  subst hst

  k_unmd
  k_dflt (refine For_invV g (by rfl) (by rfl) ?_)
  have hps : ∀ p ∈ [(Str.ofString "cells", Value.ref lc)], m p.1 = some p.2 := List.forall_mem_cons.mpr ⟨hmc, List.forall_mem_nil _⟩
  replace F := fr_ps0 hps F
  dsimp only [kstB] at F
  iterate 7 walk1
  k_dflt (refine' kmk_slice_ints (s := ⟨_, _, _, _, _⟩) F N ?zl ?zp ?zq hi ?zm rfl ?_ ?zs ?zt ?zz)
  case zl => exact News.isList N List.mem_cons_self
  case zp => exact IsPart.int _ _
  case zq => exact IsPart.none
  case zm => exact slice_one hi hn
  case zs => with_unfolding_all rfl
  case zt => kmk_pure
  case zz => rw [List.size_toArray, hi.length, PySem.sizeLine_eq]; omega
  intro D ws h2 F2 N2 hD hI2 _ _
  have F2m : Fr g L h2 m := by rw [← kst_back hps]; exact F2
  clear F2 F
  refine lst_free (ax := D) (vs := ws) (ns := ks.drop 1) (fun pre mm nx => ∃ vm nm oC' v', nx = ((L + 1 + 1 + 1 + 1, oC') :: (lm, listOf (List.toArray vm) nm) :: (L + 1 + 1 + 1, oM) :: (L + 1 + 1, oB) :: (lb, listOf ub.toArray nb) :: (x2, instObj 122 dx2) :: (dx2, wsD w (Str.ofString "   \t" ++ ldF ax ak) t2 n2 tn2 nt2 tt2 tp2 cnt2.length k12 k22 k32 k42 k52) :: (tp2, wsT tc2 b2 tb2) :: (tc2, wsC us2) :: led) ∧ oC'.data = .cell v' ∧ IntsAre vm (pre.map (tmF (Str.ofString "   \t" ++ ldF ax ak))) ∧ mm (Str.ofString "goal") = some (.ref x2)) rfl (News.isList N2 List.mem_cons_self) hI2 F2m (fun p hp => N2 p ?_) ⟨[], 0, oC, v₀, rfl, dC, .nil, hmg⟩ ?_ ?_
  · exact List.mem_cons_of_mem _ (List.mem_cons_of_mem _ hp)
  · intro pre post k t m₁ news₁ h3 tk3 I oI own hsp hJJ hoffI hIown hown F3 N3
    refine Classical.byContradiction fun hG => ?_
    obtain ⟨vm, nm, oC', v', rfl, dC', him, hgm⟩ := hJJ
    refine hG ?_
    clear hG
    simp only [List.cons_append] at N3
    have hk0 : 0 ≤ k := hk k (List.mem_of_mem_drop (hsp ▸ List.mem_append_right _ List.mem_cons_self))
    have hoffO : ∀ q ∈ (L + 1 + 1 + 1 + 1, oC') :: (lm, listOf (List.toArray vm) nm) :: (L + 1 + 1 + 1, oM) :: (L + 1 + 1, oB) :: (lb, listOf ub.toArray nb) :: (x2, instObj 122 dx2) :: (dx2, wsD w (Str.ofString "   \t" ++ ldF ax ak) t2 n2 tn2 nt2 tt2 tp2 cnt2.length k12 k22 k32 k42 k52) :: (tp2, wsT tc2 b2 tb2) :: (tc2, wsC us2) :: led, ∀ p ∈ own, p.1 ≠ q.1 := by
      intro q hq p hp
      rcases hown p hp with e | e
      · rw [e]; exact Ne.symm (hoffI q hq)
      · rw [e]
        refine Nat.ne_of_gt ?_
        rcases List.mem_cons.mp hq with rfl | hq
        · exact hD (L + 1 + 1 + 1 + 1, oC) (List.mem_cons_of_mem _ List.mem_cons_self)
        · rcases List.mem_cons.mp hq with rfl | hq
          · exact hD (lm, listOf #[] 0) (List.mem_cons_of_mem _ (List.mem_cons_of_mem _ List.mem_cons_self))
          · exact hD q (List.mem_cons_of_mem _ (List.mem_cons_of_mem _ (List.mem_cons_of_mem _ hq)))
    have hCo' : ∀ p ∈ (lm, listOf (List.toArray vm) nm) :: (L + 1 + 1 + 1, oM) :: (L + 1 + 1, oB) :: (lb, listOf ub.toArray nb) :: (x2, instObj 122 dx2) :: (dx2, wsD w (Str.ofString "   \t" ++ ldF ax ak) t2 n2 tn2 nt2 tt2 tp2 cnt2.length k12 k22 k32 k42 k52) :: (tp2, wsT tc2 b2 tb2) :: (tc2, wsC us2) :: led ++ own, p.1 ≠ L + 1 + 1 + 1 + 1 := by
      intro p hp
      rcases List.mem_append.mp hp with hp | hp
      · rcases List.mem_cons.mp hp with rfl | hp
        · exact hCo (lm, listOf #[] 0) List.mem_cons_self
        · exact hCo p (List.mem_cons_of_mem _ hp)
      · exact hoffO (L + 1 + 1 + 1 + 1, oC') List.mem_cons_self p hp
    have hm0 : 0 ≤ Int.fmod k 3 := Int.fmod_nonneg_of_pos _ (by decide)
    have hm1 : Int.fmod k 3 < 3 := Int.fmod_lt_of_pos _ (by decide)
    refine wpAny_execs_cons (tu_text hb' rfl rfl X T F3 N3 hk0 fun h4 tk4 t4 F4 N4 => ?_)
    dsimp only
    have hxc := ld_codes (Int.fdiv k 3) (1 + Int.fmod k 3)
    have hxl : (ldF (Int.fdiv k 3) (1 + Int.fmod k 3)).length ≤ 40 := Nat.le_trans (ldF_len _ _ (by omega)) (by decide)
    refine wpAny_execs_cons (tu_cols hb' rfl rfl X T F4 N4 dC' hxl hCo' fun h5 tk5 ld uc nc oC5 F5 N5 ap5 dC5 hic => ?_)
    dsimp only
    refine wpAny_execs_cons (tu_space hb' rfl rfl X T F5 N5 hxc hxl fun h6 tk6 x dx tp tc us1 cnt b n nt t tb tn tt k1 k2 k3 k4 k5 F6 N6 l1 l2 l3 l4 hi1 he1 => ?_)
    dsimp only
    refine Classical.byContradiction fun hG => ?_
    obtain ⟨a1, a2, a3, a4, a5, a6, a7⟩ := ld_facts (by omega) (by omega) he1
    obtain ⟨c1, c2, c3, c4, c5, c6, c7, c8⟩ := aim_facts hak0 hak1 he2
    obtain ⟨hnd, hls⟩ := nl_du hxc he1 (aim_codes ax ak) he2
    obtain ⟨du1, du2, du3, du4⟩ := du_facts (coL (ldF (Int.fdiv k 3) (1 + Int.fmod k 3))) (coL (Str.ofString "   \t" ++ ldF ax ak))
    refine hG ?_
    clear hG
    have N6' : News g L h6 ((ld, listOf uc.toArray nc) :: (lb, listOf ub.toArray nb) :: (L + 1 + 1 + 1 + 1, oC5) :: (L + 1 + 1, oB) :: (lm, listOf (List.toArray vm) nm) :: (L + 1 + 1 + 1, oM) :: ([(x, instObj 122 dx), (dx, wsD w (ldF (Int.fdiv k 3) (1 + Int.fmod k 3)) t n tn nt tt tp cnt.length k1 k2 k3 k4 k5), (tp, wsT tc b tb), (tc, wsC us1), (x2, instObj 122 dx2), (dx2, wsD w (Str.ofString "   \t" ++ ldF ax ak) t2 n2 tn2 nt2 tt2 tp2 cnt2.length k12 k22 k32 k42 k52), (tp2, wsT tc2 b2 tb2), (tc2, wsC us2)] ++ (led ++ own))) := fun p hp => N6 p (pick_mem _ [4, 9, 5, 8, 6, 7, 0, 1, 2, 3, 10, 11, 12, 13] 14 hp)
    refine wpAny_execs_cons (tu_due hb' rfl rfl X T F6 N6' dC5 dB hic hib rfl rfl fun h7 tk7 Dd dl F7 N7 ap7 ap7' hdu => ?_)
    dsimp only
    refine Classical.byContradiction fun hG => ?_
    obtain ⟨m7, hm7, F7e⟩ := fr_map F7
    have hs7 : m7 (Str.ofString "space") = some (.ref x) := by rw [hm7]; rfl
    have hg7 : m7 (Str.ofString "goal") = some (.ref x2) := by rw [hm7]; exact hgm
    have hd7 : m7 (Str.ofString "due") = some (.ref Dd) := by rw [hm7]; rfl
    clear hm7 F7
    refine hG ?_
    clear hG
    have F7' := fr_ps0 (ps := [(Str.ofString "space", .ref x), (Str.ofString "goal", .ref x2)]) (List.forall_mem_cons.mpr ⟨hs7, List.forall_mem_cons.mpr ⟨hg7, List.forall_mem_nil _⟩⟩) F7e
    dsimp only [kstB] at F7'
    have N7' : News g L h7 ([(x, instObj 122 dx), (dx, wsD w (ldF (Int.fdiv k 3) (1 + Int.fmod k 3)) t n tn nt tt tp cnt.length k1 k2 k3 k4 k5), (tp, wsT tc b tb), (tc, wsC us1), (x2, instObj 122 dx2), (dx2, wsD w (Str.ofString "   \t" ++ ldF ax ak) t2 n2 tn2 nt2 tt2 tp2 cnt2.length k12 k22 k32 k42 k52), (tp2, wsT tc2 b2 tb2), (tc2, wsC us2)] ++ ((Dd, LCg.lst (dl.map triV)) :: (lm, listOf (List.toArray vm) nm) :: (L + 1 + 1 + 1, oM) :: (L + 1 + 1 + 1 + 1, oC5) :: (L + 1 + 1, oB) :: (lb, listOf ub.toArray nb) :: (dl.map triO ++ (led ++ own)))) := fun p hp => N7 p (mid_mem [(Dd, LCg.lst (dl.map triV))] (dl.map triO) ((ld, listOf uc.toArray nc) :: (lb, listOf ub.toArray nb) :: (L + 1 + 1 + 1 + 1, oC5) :: (L + 1 + 1, oB) :: (lm, listOf (List.toArray vm) nm) :: (L + 1 + 1 + 1, oM) :: [(x, instObj 122 dx), (dx, wsD w (ldF (Int.fdiv k 3) (1 + Int.fmod k 3)) t n tn nt tt tp cnt.length k1 k2 k3 k4 k5), (tp, wsT tc b tb), (tc, wsC us1), (x2, instObj 122 dx2), (dx2, wsD w (Str.ofString "   \t" ++ ldF ax ak) t2 n2 tn2 nt2 tt2 tp2 cnt2.length k12 k22 k32 k42 k52), (tp2, wsT tc2 b2 tb2), (tc2, wsC us2)]) (led ++ own) (pick_mem ((Dd, LCg.lst (dl.map triV)) :: (((ld, listOf uc.toArray nc) :: (lb, listOf ub.toArray nb) :: (L + 1 + 1 + 1 + 1, oC5) :: (L + 1 + 1, oB) :: (lm, listOf (List.toArray vm) nm) :: (L + 1 + 1 + 1, oM) :: [(x, instObj 122 dx), (dx, wsD w (ldF (Int.fdiv k 3) (1 + Int.fmod k 3)) t n tn nt tt tp cnt.length k1 k2 k3 k4 k5), (tp, wsT tc b tb), (tc, wsC us1), (x2, instObj 122 dx2), (dx2, wsD w (Str.ofString "   \t" ++ ldF ax ak) t2 n2 tn2 nt2 tt2 tp2 cnt2.length k12 k22 k32 k42 k52), (tp2, wsT tc2 b2 tb2), (tc2, wsC us2)]) ++ (dl.map triO ++ (led ++ own)))) [7, 8, 9, 10, 11, 12, 13, 14, 0, 5, 6, 3, 4, 2] 15 hp))
    refine wpAny_execs_cons (tu_wit hb' rfl rfl X T F7' N7' hi1 a1 a2 a3 a4 a5 a6 hi2 c1 c2 c3 c4 c5 c6 rfl a7 c7 c8 fun h8 tk8 la nn tl F8 N8 ap8 hnl => ?_)
    dsimp only
    refine Classical.byContradiction fun hG => ?_
    obtain ⟨m8, hm8, F8e⟩ := fr_map F8
    have hw8 : m8 (Str.ofString "witness") = some (.ref la) := by rw [hm8]; rfl
    have hs8 : m8 (Str.ofString "space") = some (.ref x) := by rw [hm8]; rfl
    have hg8 : m8 (Str.ofString "goal") = some (.ref x2) := by rw [hm8]; rfl
    have hd8 : m8 (Str.ofString "due") = some (.ref Dd) := by rw [hm8]; exact hd7
    clear hm8 F8
    refine hG ?_
    clear hG
    have heq : tl.map triI = dl.map triI := hnl.trans (hnd.trans hdu.symm)
    have N8' : News g L h8 ((la, listOf (tl.map triV).toArray nn) :: (Dd, LCg.lst (dl.map triV)) :: ([(x, instObj 122 dx), (dx, wsD w (ldF (Int.fdiv k 3) (1 + Int.fmod k 3)) t n tn nt tt tp cnt.length k1 k2 k3 k4 k5), (tp, wsT tc b tb), (tc, wsC us1), (x2, instObj 122 dx2), (dx2, wsD w (Str.ofString "   \t" ++ ldF ax ak) t2 n2 tn2 nt2 tt2 tp2 cnt2.length k12 k22 k32 k42 k52), (tp2, wsT tc2 b2 tb2), (tc2, wsC us2)] ++ ((lm, listOf (List.toArray vm) nm) :: (L + 1 + 1 + 1, oM) :: (L + 1 + 1 + 1 + 1, oC5) :: (L + 1 + 1, oB) :: (lb, listOf ub.toArray nb) :: (tl.map triO ++ (dl.map triO ++ (led ++ own)))))) := fun p hp => N8 p (mid_mem [(la, listOf (tl.map triV).toArray nn)] (tl.map triO) ([(x, instObj 122 dx), (dx, wsD w (ldF (Int.fdiv k 3) (1 + Int.fmod k 3)) t n tn nt tt tp cnt.length k1 k2 k3 k4 k5), (tp, wsT tc b tb), (tc, wsC us1), (x2, instObj 122 dx2), (dx2, wsD w (Str.ofString "   \t" ++ ldF ax ak) t2 n2 tn2 nt2 tt2 tp2 cnt2.length k12 k22 k32 k42 k52), (tp2, wsT tc2 b2 tb2), (tc2, wsC us2)] ++ [(Dd, LCg.lst (dl.map triV)), (lm, listOf (List.toArray vm) nm), (L + 1 + 1 + 1, oM), (L + 1 + 1 + 1 + 1, oC5), (L + 1 + 1, oB), (lb, listOf ub.toArray nb)]) (dl.map triO ++ (led ++ own)) (pick_mem ((la, listOf (tl.map triV).toArray nn) :: (([(x, instObj 122 dx), (dx, wsD w (ldF (Int.fdiv k 3) (1 + Int.fmod k 3)) t n tn nt tt tp cnt.length k1 k2 k3 k4 k5), (tp, wsT tc b tb), (tc, wsC us1), (x2, instObj 122 dx2), (dx2, wsD w (Str.ofString "   \t" ++ ldF ax ak) t2 n2 tn2 nt2 tt2 tp2 cnt2.length k12 k22 k32 k42 k52), (tp2, wsT tc2 b2 tb2), (tc2, wsC us2)] ++ [(Dd, LCg.lst (dl.map triV)), (lm, listOf (List.toArray vm) nm), (L + 1 + 1 + 1, oM), (L + 1 + 1 + 1 + 1, oC5), (L + 1 + 1, oB), (lb, listOf ub.toArray nb)]) ++ (tl.map triO ++ (dl.map triO ++ (led ++ own))))) [0, 9, 1, 2, 3, 4, 5, 6, 7, 8, 10, 11, 12, 13, 14] 15 hp))
    refine wpAny_execs_cons (tu_if hb' rfl rfl X T (List.forall_mem_cons.mpr ⟨hw8, List.forall_mem_cons.mpr ⟨hd8, List.forall_mem_cons.mpr ⟨hs8, List.forall_mem_cons.mpr ⟨hg8, List.forall_mem_nil _⟩⟩⟩⟩) F8e N8' (fun e he => List.mem_cons_of_mem _ (List.mem_cons_of_mem _ (List.mem_cons_of_mem _ (List.mem_cons_of_mem _ (List.mem_cons_of_mem _ (List.mem_append_left _ (List.mem_map_of_mem he))))))) (fun e he => List.mem_cons_of_mem _ (List.mem_cons_of_mem _ (List.mem_cons_of_mem _ (List.mem_cons_of_mem _ (List.mem_cons_of_mem _ (List.mem_append_right _ (List.mem_append_left _ (List.mem_map_of_mem he)))))))) heq (by rw [hls, hdu]) hi1 a1 a2 a3 a4 a5 a6 hi2 c1 c2 c3 c4 c5 c6 rfl a7 c7 c8 fun h9 tk9 F9 N9 => ?_)
    dsimp only
    have N9' : News g L h9 ((la, listOf (tl.map triV).toArray nn) :: (lm, listOf (List.toArray vm) nm) :: (L + 1 + 1 + 1, oM) :: ((L + 1 + 1 + 1 + 1, oC5) :: (L + 1 + 1, oB) :: (lb, listOf ub.toArray nb) :: ([(x2, instObj 122 dx2), (dx2, wsD w (Str.ofString "   \t" ++ ldF ax ak) t2 n2 tn2 nt2 tt2 tp2 cnt2.length k12 k22 k32 k42 k52), (tp2, wsT tc2 b2 tb2), (tc2, wsC us2)] ++ (tl.map triO ++ (led ++ own))))) := fun p hp => N9 p (pick_mem2 _ [0, 10, 11, 12, 13, 14, 6, 7, 8, 9] 15 (t := tl.map triO ++ (led ++ own)) (fun q hq => mem_mid _ _ _ hq) hp)
    have hlen : pre.length ≤ 4 := by
      have h1 := congrArg List.length hsp
      rw [List.length_drop, hn, List.length_append, List.length_cons] at h1
      omega
    have htn : tl.length ≤ 4 := by
      have h1 := congrArg List.length (hnl.trans hnd)
      rw [List.length_map] at h1
      omega
    have hlmla : la ≠ lm := Ne.symm (ap8 (lm, listOf (List.toArray vm) nm) (List.mem_cons_of_mem _ List.mem_cons_self)).1
    have hoff9 : ∀ p ∈ (L + 1 + 1 + 1 + 1, oC5) :: (L + 1 + 1, oB) :: (lb, listOf ub.toArray nb) :: ([(x2, instObj 122 dx2), (dx2, wsD w (Str.ofString "   \t" ++ ldF ax ak) t2 n2 tn2 nt2 tt2 tp2 cnt2.length k12 k22 k32 k42 k52), (tp2, wsT tc2 b2 tb2), (tc2, wsC us2)] ++ (tl.map triO ++ (led ++ own))), p.1 ≠ lm := by
      intro p hp
      rcases List.mem_cons.mp hp with rfl | hp
      · exact Ne.symm (hCo (lm, listOf #[] 0) List.mem_cons_self)
      rcases List.mem_cons.mp hp with rfl | hp
      · exact hlm (L + 1 + 1, oB) (List.mem_cons_of_mem _ List.mem_cons_self)
      rcases List.mem_cons.mp hp with rfl | hp
      · exact hlm (lb, listOf ub.toArray nb) (List.mem_cons_of_mem _ (List.mem_cons_of_mem _ List.mem_cons_self))
      rcases List.mem_append.mp hp with hp | hp
      · exact hlm p (List.mem_cons_of_mem _ (List.mem_cons_of_mem _ (List.mem_cons_of_mem _ (List.mem_append_left led hp))))
      rcases List.mem_append.mp hp with hp | hp
      · obtain ⟨e, he, rfl⟩ := List.mem_map.mp hp
        exact Ne.symm ((ap8 (lm, listOf (List.toArray vm) nm) (List.mem_cons_of_mem _ List.mem_cons_self)).2 e he)
      rcases List.mem_append.mp hp with hp | hp
      · exact hlm p (List.mem_cons_of_mem _ (List.mem_cons_of_mem _ (List.mem_cons_of_mem _ (List.mem_append_right [(x2, instObj 122 dx2), (dx2, wsD w (Str.ofString "   \t" ++ ldF ax ak) t2 n2 tn2 nt2 tt2 tp2 cnt2.length k12 k22 k32 k42 k52), (tp2, wsT tc2 b2 tb2), (tc2, wsC us2)] hp))))
      · exact hoffO (lm, listOf (List.toArray vm) nm) (List.mem_cons_of_mem _ List.mem_cons_self) p hp
    refine wpAny_execs_cons (tu_app hb' rfl rfl X T (List.forall_mem_cons.mpr ⟨hw8, List.forall_mem_nil _⟩) F9 N9' dM (fun e he => List.mem_cons_of_mem _ (List.mem_cons_of_mem _ (List.mem_cons_of_mem _ (List.mem_append_right _ (List.mem_append_left _ (List.mem_map_of_mem he)))))) him (by rw [List.length_map]; exact hlen) htn (by rw [hnl, hnd]; exact du2) hlmla (Ne.symm (hlm (L + 1 + 1 + 1, oM) List.mem_cons_self)) hoff9 fun h10 tk10 vm' F10 N10 hvm' => ?_)
    dsimp only
    refine wpAny_execs_nil ?_
    refine ⟨_, _, _, (L + 1 + 1 + 1 + 1, oC5) :: (lm, listOf (List.toArray vm') (nm + 1)) :: (L + 1 + 1 + 1, oM) :: (L + 1 + 1, oB) :: (lb, listOf ub.toArray nb) :: (x2, instObj 122 dx2) :: (dx2, wsD w (Str.ofString "   \t" ++ ldF ax ak) t2 n2 tn2 nt2 tt2 tp2 cnt2.length k12 k22 k32 k42 k52) :: (tp2, wsT tc2 b2 tb2) :: (tc2, wsC us2) :: led, rfl, F10, (fun p hp => N10 p (pick_mem2 _ [3, 1, 2, 4, 5, 6, 7, 8, 9] 10 (t := led ++ own) (fun q hq => List.mem_append_right _ hq) hp)), ?_, vm', nm + 1, oC5, _, rfl, dC5, ?_, hg8⟩
    · intro p hp
      rcases List.mem_cons.mp hp with rfl | hp
      · exact hoffI (L + 1 + 1 + 1 + 1, oC') List.mem_cons_self
      rcases List.mem_cons.mp hp with rfl | hp
      · exact hoffI (lm, listOf (List.toArray vm) nm) (List.mem_cons_of_mem _ List.mem_cons_self)
      · exact hoffI p (List.mem_cons_of_mem _ (List.mem_cons_of_mem _ hp))
    · rw [List.map_append, List.map_singleton, tmF, ← hnd, ← hnl]
      exact hvm'
  · rintro m₁ news₁ h3 tk3 ⟨vm, nm, oC', v', rfl, dC', him, hgm⟩ F3 N3
    exact h _ _ _ vm nm oC' v' F3 N3 dC' him
end RL
end
section
open PySem PySem.W PyProof.Rows PySem.Calls
namespace RL
theorem ints_idx : ∀ {ys : List Value} {f : Nat → Int}, (∀ i v, ys[i]? = some v → ∃ t, v = Value.int (f i) t) → IntsAre ys ((List.range ys.length).map f)
  | [], _, _ => .nil
  | y :: ys, f, h => by
    obtain ⟨t, rfl⟩ := h 0 y rfl
    rw [List.length_cons, List.range_succ_eq_map, List.map_cons, List.map_map]
    exact .cons _ _ (ints_idx (f := f ∘ Nat.succ) fun i v hv => h (i + 1) v (by simpa using hv))
def tuG (ns : List Int) (place : Int) (l : List Int) (k : Int) : List Int := if ((ns.getD k.toNat 0).fdiv (2 ^ (3 - place).toNat)).fmod 2 = 1 then l ++ [2 ^ (3 - k).toNat] else l
def tuE (ns : List Int) (place : Int) : Int := ((rangeKs 0 4).foldl (tuG ns place) []).sum
def tuF (ns : List Int) : List Int := (rangeKs 0 4).map (tuE ns)
theorem st_turned {w : World} {s : Shared} {mean : ExcName → Option Value} {mg mb : Str → Option Value} {Q : Flow → Shared → Prop} {E : Value → Shared → Prop} {name qual : Str} {params : Arguments} {body : List Stmt} {scope : Scope} {dV kV doc pm cdv0 cdv ct oc : Value} {an od : Option Addr} {osl : Array (Option Value)} {fa L : Addr}  {led : List (Addr × Obj)}    {m : Str → Option Value} {oT oM : Obj} {g : Heap} {st : Stmt} {lm : Addr} {vm : List Value} {ns : List Int} {nn : Nat} {v₀ : Option Value} (hb : (hd.heap_39 w.params).lookup 185 = some ⟨oc, od, .func (fnX name qual params body scope [] dV kV doc pm an cdv0 ct), osl⟩) (hst : body[6]? = some st) (X : (hd.heap_39 w.params).In g) (T : Top hd.view_39 (looseW hd.view_39 [Str.ofString "insort_left", Str.ofString "bisect_left", Str.ofString "Whitespace"]) mean mg mb g)
    (F : Fr g L s.heap m) (N : News g L s.heap ((L + 1 + 1 + 1 + 1 + 1, oT) :: (lm, listOf vm.toArray nn) :: (L + 1 + 1 + 1, oM) :: led)) (dT : oT.data = .cell v₀) (dM : oM.data = .cell (some (.ref lm)))
    (hi : IntsAre vm ns) (hn : ns.length = 4) (hb16 : ∀ v ∈ ns, 0 ≤ v ∧ v < 16) (hoff : ∀ p ∈ (lm, listOf vm.toArray nn) :: (L + 1 + 1 + 1, oM) :: led, p.1 ≠ L + 1 + 1 + 1 + 1 + 1)
    (h : ∀ h' tk' lt ut oT', Fr g L h' m → News g L h' ((L + 1 + 1 + 1 + 1 + 1, oT') :: (lt, LCg.lst ut) :: (lm, listOf vm.toArray nn) :: (L + 1 + 1 + 1, oM) :: led) → oT'.data = .cell (some (.ref lt)) → IntsAre ut (tuF ns) → Q .next { s with heap := h', toks := tk' }) :
    wpAny (model Pg w) (Ar 400 200) (exec st (envOfC qual scope L fa cdv)) Q E s := by
  have e0 := look_eq hb (by k_is)
  revert hst
  refine law_at (P := fun qual body scope => (body[6]? = some st) → wpAny (model Pg w) (Ar 400 200) (exec st (envOfC qual scope L fa cdv)) Q E s) e0 ?_
  clear e0 hb
  intro hst
  injection hst with hst
  subst hst

  k_unmd
  repeat (first | (k_unfold; (try dsimp only)) | ((fail_if_success (with_reducible show wpAny _ _ (call (Value.ref 133) _) _ _ _)); (fail_if_success (with_reducible show wpAny _ _ (call (Value.ref 140) _) _ _ _)); (fail_if_success (with_reducible show wpAny _ _ (call (Value.ref 122) _) _ _ _)); (fail_if_success (with_reducible show wpAny _ _ (execs _ _) _ _ _)); (fail_if_success (with_reducible show wpAny _ _ (pyIter _) _ _ _)); (fail_if_success (with_reducible show wpAny _ _ (eval (PySem.Expr.ListComp _ _ _ _) _) _ _ _)); (fail_if_success (with_reducible show wpAny _ _ (subscriptTail _ (PySem.Expr.Slice _ _ _ _) _ _) _ _ _)); first | walk1 | (dsimp only; walk1)))
  refine lc_cell (h₀ := g) (L := L) (m := m) (fun n => rfl) (fun h => rfl) rfl rfl (by with_unfolding_all rfl) (by decide) ?_
  repeat (first | (k_unfold; (try dsimp only)) | ((fail_if_success (with_reducible show wpAny _ _ (call (Value.ref 133) _) _ _ _)); (fail_if_success (with_reducible show wpAny _ _ (call (Value.ref 140) _) _ _ _)); (fail_if_success (with_reducible show wpAny _ _ (call (Value.ref 122) _) _ _ _)); (fail_if_success (with_reducible show wpAny _ _ (execs _ _) _ _ _)); (fail_if_success (with_reducible show wpAny _ _ (pyIter _) _ _ _)); (fail_if_success (with_reducible show wpAny _ _ (eval (PySem.Expr.ListComp _ _ _ _) _) _ _ _)); (fail_if_success (with_reducible show wpAny _ _ (subscriptTail _ (PySem.Expr.Slice _ _ _ _) _ _) _ _ _)); (fail_if_success (with_reducible show LCt.CompSrcT _ _ _ _ _ _ _ _ _ _ _ _ _ _ _)); (fail_if_success (with_reducible show LCg.CompSrc _ _ _ _ _ _ _ _ _ _ _ _ _ _)); (fail_if_success (with_reducible show LCg.CompEnd _ _ _ _ _ _ _ _ _ _ _ _ _ _)); (fail_if_success (with_reducible show RL.CellSrc _ _ _ _ _ _ _ _ _ _ _ _ _ _)); first | walk1 | (dsimp only; walk1)))
  rename_i hR F1 N1 hkp1
  refine .inr ⟨_, 0, 4, _, _, _, 4, _, (fun i v => ∃ t, v = .int (tuE ns (0 + (i : Int))) t), rfl, rfl, hR, by decide, rfl, by exact Nat.le_of_ble_eq_true rfl, F1, N1, fun g' => ?_, ?_⟩
  · rintro i v ⟨hi4, tv, rfl⟩ C c h3 tk3 E3 oCC oc m₂ hgC hLC hCc hnC hC hoC hc hdc F3 N3
    refine led_below (s := { s with heap := g', toks := _ }) (R := fun v _ => ∃ t, v = Value.int (tuE ns (0 + (i : Int))) t) F3 fun led2 NL => ?_
    have N4 : News g L h3 ((c, oc) :: (lm, listOf vm.toArray nn) :: (L + 1 + 1 + 1, oM) :: led2) := by
      intro p hp
      rcases List.mem_cons.mp hp with rfl | hp
      · exact ⟨hc, Nat.ne_of_gt (Nat.lt_trans hLC hCc), Heap.get?_none_of_le (Nat.le_trans hgC (Nat.le_of_lt hCc))⟩
      rcases List.mem_cons.mp hp with rfl | hp
      · exact N3 _ (List.mem_cons_of_mem _ List.mem_cons_self)
      rcases List.mem_cons.mp hp with rfl | hp
      · exact N3 _ (List.mem_cons_of_mem _ (List.mem_cons_of_mem _ List.mem_cons_self))
      · exact NL _ hp
    generalize hk : (0 : Int) + (i : Int) = pl at *
    have hp0 : 0 ≤ pl := by omega
    have hp3 : pl ≤ 3 := by omega
    clear N3 NL hR F1 N1 hkp1 h hnC
    dsimp only
    repeat (first | (k_unfold; (try dsimp only)) | ((fail_if_success (with_reducible show wpAny _ _ (call (Value.ref 133) _) _ _ _)); (fail_if_success (with_reducible show wpAny _ _ (call (Value.ref 140) _) _ _ _)); (fail_if_success (with_reducible show wpAny _ _ (call (Value.ref 122) _) _ _ _)); (fail_if_success (with_reducible show wpAny _ _ (execs _ _) _ _ _)); (fail_if_success (with_reducible show wpAny _ _ (pyIter _) _ _ _)); (fail_if_success (with_reducible show wpAny _ _ (eval (PySem.Expr.ListComp _ _ _ _) _) _ _ _)); (fail_if_success (with_reducible show wpAny _ _ (subscriptTail _ (PySem.Expr.Slice _ _ _ _) _ _) _ _ _)); (fail_if_success (with_reducible show LCt.CompSrcT _ _ _ _ _ _ _ _ _ _ _ _ _ _ _)); (fail_if_success (with_reducible show LCg.CompSrc _ _ _ _ _ _ _ _ _ _ _ _ _ _)); (fail_if_success (with_reducible show LCg.CompEnd _ _ _ _ _ _ _ _ _ _ _ _ _ _)); (fail_if_success (with_reducible show RL.CellSrc _ _ _ _ _ _ _ _ _ _ _ _ _ _)); first | walk1 | (dsimp only; walk1)))
    k_dflt (refine LCt.ListComp_T (F₀ := F3) (by with_unfolding_all rfl) (by decide) (by rfl) (by decide) (by rfl) ?_)
    repeat (first | (k_unfold; (try dsimp only)) | ((fail_if_success (with_reducible show wpAny _ _ (call (Value.ref 133) _) _ _ _)); (fail_if_success (with_reducible show wpAny _ _ (call (Value.ref 140) _) _ _ _)); (fail_if_success (with_reducible show wpAny _ _ (call (Value.ref 122) _) _ _ _)); (fail_if_success (with_reducible show wpAny _ _ (execs _ _) _ _ _)); (fail_if_success (with_reducible show wpAny _ _ (pyIter _) _ _ _)); (fail_if_success (with_reducible show wpAny _ _ (eval (PySem.Expr.ListComp _ _ _ _) _) _ _ _)); (fail_if_success (with_reducible show wpAny _ _ (subscriptTail _ (PySem.Expr.Slice _ _ _ _) _ _) _ _ _)); (fail_if_success (with_reducible show LCt.CompSrcT _ _ _ _ _ _ _ _ _ _ _ _ _ _ _)); (fail_if_success (with_reducible show LCg.CompSrc _ _ _ _ _ _ _ _ _ _ _ _ _ _)); (fail_if_success (with_reducible show LCg.CompEnd _ _ _ _ _ _ _ _ _ _ _ _ _ _)); (fail_if_success (with_reducible show RL.CellSrc _ _ _ _ _ _ _ _ _ _ _ _ _ _)); first | walk1 | (dsimp only; walk1)))
    rename_i hR2 F5 N5 hk5
    k_dflt (refine LCt.CompSrcT.range (by rfl) F5 N5 hR2 (by decide) (by rfl) (by exact Nat.le_of_ble_eq_true rfl) ?_)
    intro g2
    refine kci_range (n := 4) (tuG ns pl) (fun k' t' I' oI' C' oC' D' m' ys' l' h' tk' E' hlo' hhi' hI' hC' hx' F' N' off' ne' => ?_) ?_ ?_
    · intro mk
      clear hR2 F5 N5 hk5
      dsimp only
      repeat (first | (k_unfold; (try dsimp only)) | ((fail_if_success (with_reducible show wpAny _ _ (call (Value.ref 133) _) _ _ _)); (fail_if_success (with_reducible show wpAny _ _ (call (Value.ref 140) _) _ _ _)); (fail_if_success (with_reducible show wpAny _ _ (call (Value.ref 122) _) _ _ _)); (fail_if_success (with_reducible show wpAny _ _ (execs _ _) _ _ _)); (fail_if_success (with_reducible show wpAny _ _ (pyIter _) _ _ _)); (fail_if_success (with_reducible show wpAny _ _ (eval (PySem.Expr.ListComp _ _ _ _) _) _ _ _)); (fail_if_success (with_reducible show wpAny _ _ (subscriptTail _ (PySem.Expr.Slice _ _ _ _) _ _) _ _ _)); (fail_if_success (with_reducible show LCt.CompSrcT _ _ _ _ _ _ _ _ _ _ _ _ _ _ _)); (fail_if_success (with_reducible show LCg.CompSrc _ _ _ _ _ _ _ _ _ _ _ _ _ _)); (fail_if_success (with_reducible show LCg.CompEnd _ _ _ _ _ _ _ _ _ _ _ _ _ _)); (fail_if_success (with_reducible show RL.CellSrc _ _ _ _ _ _ _ _ _ _ _ _ _ _)); first | walk1 | (dsimp only; walk1)))
      · rename_i hc
        (try dsimp only)
        walk1
        repeat (first | (k_unfold; (try dsimp only)) | ((fail_if_success (with_reducible show wpAny _ _ (call (Value.ref 133) _) _ _ _)); (fail_if_success (with_reducible show wpAny _ _ (call (Value.ref 140) _) _ _ _)); (fail_if_success (with_reducible show wpAny _ _ (call (Value.ref 122) _) _ _ _)); (fail_if_success (with_reducible show wpAny _ _ (execs _ _) _ _ _)); (fail_if_success (with_reducible show wpAny _ _ (pyIter _) _ _ _)); (fail_if_success (with_reducible show wpAny _ _ (eval (PySem.Expr.ListComp _ _ _ _) _) _ _ _)); (fail_if_success (with_reducible show wpAny _ _ (subscriptTail _ (PySem.Expr.Slice _ _ _ _) _ _) _ _ _)); (fail_if_success (with_reducible show LCt.CompSrcT _ _ _ _ _ _ _ _ _ _ _ _ _ _ _)); (fail_if_success (with_reducible show LCg.CompSrc _ _ _ _ _ _ _ _ _ _ _ _ _ _)); (fail_if_success (with_reducible show LCg.CompEnd _ _ _ _ _ _ _ _ _ _ _ _ _ _)); (fail_if_success (with_reducible show RL.CellSrc _ _ _ _ _ _ _ _ _ _ _ _ _ _)); first | walk1 | (dsimp only; walk1)))
        (try dsimp only)
        with_reducible rename Fr _ _ _ _ => kF
        with_reducible rename News _ _ _ _ => kN
        exact LCg.CompEnd.intro kF kN _ (fun p hp => hp) off' trivial (kci_el (by unfold tuG; rw [if_pos hc]) rfl rfl)
      · rename_i hc
        (try dsimp only)
        with_reducible rename Fr _ _ _ _ => kF
        with_reducible rename News _ _ _ _ => kN
        exact LCg.CompEnd.intro kF kN _ (fun p hp => hp) off' trivial (kci_no (by unfold tuG; rw [if_neg hc]) rfl)
    · intro ys hys hlen D hh tkk FF NN OO
      dsimp only
      repeat (first | (k_unfold; (try dsimp only)) | ((fail_if_success (with_reducible show wpAny _ _ (call (Value.ref 133) _) _ _ _)); (fail_if_success (with_reducible show wpAny _ _ (call (Value.ref 140) _) _ _ _)); (fail_if_success (with_reducible show wpAny _ _ (call (Value.ref 122) _) _ _ _)); (fail_if_success (with_reducible show wpAny _ _ (execs _ _) _ _ _)); (fail_if_success (with_reducible show wpAny _ _ (pyIter _) _ _ _)); (fail_if_success (with_reducible show wpAny _ _ (eval (PySem.Expr.ListComp _ _ _ _) _) _ _ _)); (fail_if_success (with_reducible show wpAny _ _ (subscriptTail _ (PySem.Expr.Slice _ _ _ _) _ _) _ _ _)); (fail_if_success (with_reducible show LCt.CompSrcT _ _ _ _ _ _ _ _ _ _ _ _ _ _ _)); (fail_if_success (with_reducible show LCg.CompSrc _ _ _ _ _ _ _ _ _ _ _ _ _ _)); (fail_if_success (with_reducible show LCg.CompEnd _ _ _ _ _ _ _ _ _ _ _ _ _ _)); (fail_if_success (with_reducible show RL.CellSrc _ _ _ _ _ _ _ _ _ _ _ _ _ _)); first | walk1 | (dsimp only; walk1)))
      · rename_i F7 N7
        exact F7
      · rename_i F7 N7
        exact ⟨fun p hp => N7 p (List.mem_cons_of_mem _ (List.mem_cons_of_mem _ (List.mem_cons_of_mem _ (List.mem_cons_of_mem _ hp)))), _, rfl⟩
    · intro l k
      unfold tuG
      split <;> simp
  · intro D h3 tk3 ys F3 N3 hoff3 hyl hys
    have hit : IntsAre ys (tuF ns) := by
      have z := ints_idx (f := fun i => tuE ns (0 + (i : Int))) hys
      rw [hyl] at z
      exact z
    dsimp only
    have N5 : News g L h3 ((L + 1 + 1 + 1 + 1 + 1, oT) :: (D, LCg.lst ys) :: (lm, listOf vm.toArray nn) :: (L + 1 + 1 + 1, oM) :: led) := fun p hp => N3 p (by
      rcases List.mem_cons.mp hp with rfl | hp
      · exact .tail _ (.head _)
      rcases List.mem_cons.mp hp with rfl | hp
      · exact .head _
      · exact .tail _ (.tail _ hp))
    refine store_cell (c := L + 1 + 1 + 1 + 1 + 1) rfl rfl rfl F3 N5 dT (fun p hp => ?_) fun h6 oT' F6 N6 d6 => h _ _ D ys oT' F6 N6 d6 hit
    rcases List.mem_cons.mp hp with rfl | hp
    · exact Ne.symm (hoff3 (L + 1 + 1 + 1 + 1 + 1, oT) List.mem_cons_self)
    · exact hoff p hp
end RL
end
section
open PySem PySem.W PyProof.Rows PySem.Calls
namespace RL
theorem news_list {g h : Heap} {L a : Addr} {led : List (Addr × Obj)} {vs : Array Value} {n : Nat} (N : News g L h led) (hm : (a, ({ cls := .type "list", data := .seq vs n } : Obj)) ∈ led) : h.IsList a vs := ⟨_, (N _ hm).1, rfl, _, rfl⟩
theorem news_new {g h h' : Heap} {L a : Addr} {o : Obj} {m : Str → Option Value} {led : List (Addr × Obj)} (F : Fr g L h m) (N : News g L h led) (hk : Kp h h') (ha : h.get? a = none) (ho : h'.get? a = some o) : News g L h' ((a, o) :: led) := by
  intro p hp
  rcases List.mem_cons.mp hp with rfl | hp
  · refine ⟨ho, ?_, ?_⟩
    · rintro rfl
      obtain ⟨o, _, _, e, _⟩ := F.ns
      rw [ha] at e; cases e
    · cases e : g.get? a with
      | none => rfl
      | some o => have := F.keep _ _ e; rw [ha] at this; cases this
  · exact N.grown hk p hp
theorem st_told {w : World} {s : Shared} {mean : ExcName → Option Value} {mg mb : Str → Option Value} {Q : Flow → Shared → Prop} {E : Value → Shared → Prop} {name qual : Str} {params : Arguments} {body : List Stmt} {scope : Scope} {dV kV doc pm cdv0 cdv ct oc : Value} {an od : Option Addr} {osl : Array (Option Value)} {fa L : Addr}  {led : List (Addr × Obj)}    {m : Str → Option Value} {oT oM : Obj} {g : Heap} {st : Stmt} {lm lt : Addr} {vm ut : List Value} {ns ts : List Int} {nn : Nat} (hb : (hd.heap_39 w.params).lookup 185 = some ⟨oc, od, .func (fnX name qual params body scope [] dV kV doc pm an cdv0 ct), osl⟩) (hst : body[7]? = some st) (X : (hd.heap_39 w.params).In g) (T : Top hd.view_39 (looseW hd.view_39 [Str.ofString "insort_left", Str.ofString "bisect_left", Str.ofString "Whitespace"]) mean mg mb g)
    (F : Fr g L s.heap m) (N : News g L s.heap ((L + 1 + 1 + 1, oM) :: (lm, listOf vm.toArray nn) :: (L + 1 + 1 + 1 + 1 + 1, oT) :: (lt, LCg.lst ut) :: led)) (dT : oT.data = .cell (some (.ref lt))) (dM : oM.data = .cell (some (.ref lm))) (hi : IntsAre vm ns) (hn : ns.length = 4) (hit : IntsAre ut ts) (hnt : ts.length = 4)
    (h : ∀ h' tk' ld us n, Fr g L h' (fun z => if z = Str.ofString "told" then some (.ref ld) else m z) → News g L h' ((ld, listOf (List.toArray us) n) :: (L + 1 + 1 + 1, oM) :: (lm, listOf vm.toArray nn) :: (L + 1 + 1 + 1 + 1 + 1, oT) :: (lt, LCg.lst ut) :: led) → IntsAre us (tdF ns ts) → Q .next { s with heap := h', toks := tk' }) :
    wpAny (model Pg w) (Ar 400 200) (exec st (envOfC qual scope L fa cdv)) Q E s := by
  have e0 := look_eq hb (by k_is)
  revert hst
  refine law_at (P := fun qual body scope => (body[7]? = some st) → wpAny (model Pg w) (Ar 400 200) (exec st (envOfC qual scope L fa cdv)) Q E s) e0 ?_
  clear e0 hb
  intro hst
  injection hst with hst
  subst hst

  k_unmd
  repeat (first | (k_unfold; (try dsimp only)) | ((fail_if_success (with_reducible show wpAny _ _ (call (Value.ref 133) _) _ _ _)); (fail_if_success (with_reducible show wpAny _ _ (call (Value.ref 140) _) _ _ _)); (fail_if_success (with_reducible show wpAny _ _ (call (Value.ref 122) _) _ _ _)); (fail_if_success (with_reducible show wpAny _ _ (execs _ _) _ _ _)); (fail_if_success (with_reducible show wpAny _ _ (pyIter _) _ _ _)); (fail_if_success (with_reducible show wpAny _ _ (eval (PySem.Expr.ListComp _ _ _ _) _) _ _ _)); (fail_if_success (with_reducible show wpAny _ _ (subscriptTail _ (PySem.Expr.Slice _ _ _ _) _ _) _ _ _)); (fail_if_success (with_reducible show wpAny _ _ (call (Value.ref 166) _) _ _ _)); (fail_if_success (with_reducible show wpAny _ _ (call (Value.ref 173) _) _ _ _)); (fail_if_success (with_reducible show wpAny _ _ (call (Value.ref 180) _) _ _ _)); (fail_if_success (with_reducible show wpAny _ _ (call (Value.ref 145) _) _ _ _)); (fail_if_success (with_reducible show LCt.CompSrcT _ _ _ _ _ _ _ _ _ _ _ _ _ _ _)); (fail_if_success (with_reducible show LCg.CompSrc _ _ _ _ _ _ _ _ _ _ _ _ _ _)); (fail_if_success (with_reducible show LCg.CompEnd _ _ _ _ _ _ _ _ _ _ _ _ _ _)); (fail_if_success (with_reducible show RL.CellSrc _ _ _ _ _ _ _ _ _ _ _ _ _ _)); (fail_if_success (with_reducible show wpAny _ _ (compareOp _ (Value.ref _) (Value.ref _)) _ _ _)); first | walk1 | (dsimp only; walk1)))
  have hl : s.heap.IsList lm vm.toArray := news_list N (List.mem_cons_of_mem _ List.mem_cons_self)
  have hl2 : s.heap.IsList lt ut.toArray := news_list N (List.mem_cons_of_mem _ (List.mem_cons_of_mem _ (List.mem_cons_of_mem _ List.mem_cons_self)))
  refine lower rfl (by decide) (by decide) (c_told (Frag.In.keeps X F.keep) (Top.keeps T F.keep) hl hi hn hl2 hit hnt ?_)
  intro h1 tk1 ld us n hkp hnew hld hi1
  (try dsimp only at hkp)
  (try dsimp only at hnew)
  have F1 := F.keeps hkp
  have N1 := news_new F N hkp hnew hld
  clear F N hl hl2
  (try dsimp only)
  repeat (first | (k_unfold; (try dsimp only)) | ((fail_if_success (with_reducible show wpAny _ _ (call (Value.ref 133) _) _ _ _)); (fail_if_success (with_reducible show wpAny _ _ (call (Value.ref 140) _) _ _ _)); (fail_if_success (with_reducible show wpAny _ _ (call (Value.ref 122) _) _ _ _)); (fail_if_success (with_reducible show wpAny _ _ (execs _ _) _ _ _)); (fail_if_success (with_reducible show wpAny _ _ (pyIter _) _ _ _)); (fail_if_success (with_reducible show wpAny _ _ (eval (PySem.Expr.ListComp _ _ _ _) _) _ _ _)); (fail_if_success (with_reducible show wpAny _ _ (subscriptTail _ (PySem.Expr.Slice _ _ _ _) _ _) _ _ _)); (fail_if_success (with_reducible show wpAny _ _ (call (Value.ref 166) _) _ _ _)); (fail_if_success (with_reducible show wpAny _ _ (call (Value.ref 173) _) _ _ _)); (fail_if_success (with_reducible show wpAny _ _ (call (Value.ref 180) _) _ _ _)); (fail_if_success (with_reducible show wpAny _ _ (call (Value.ref 145) _) _ _ _)); (fail_if_success (with_reducible show LCt.CompSrcT _ _ _ _ _ _ _ _ _ _ _ _ _ _ _)); (fail_if_success (with_reducible show LCg.CompSrc _ _ _ _ _ _ _ _ _ _ _ _ _ _)); (fail_if_success (with_reducible show LCg.CompEnd _ _ _ _ _ _ _ _ _ _ _ _ _ _)); (fail_if_success (with_reducible show RL.CellSrc _ _ _ _ _ _ _ _ _ _ _ _ _ _)); (fail_if_success (with_reducible show wpAny _ _ (compareOp _ (Value.ref _) (Value.ref _)) _ _ _)); first | walk1 | (dsimp only; walk1)))
  rename_i F2 N2
  exact h _ _ ld us n F2 N2 hi1
theorem st_check {w : World} {s : Shared} {mean : ExcName → Option Value} {mg mb : Str → Option Value} {Q : Flow → Shared → Prop} {E : Value → Shared → Prop} {name qual : Str} {params : Arguments} {body : List Stmt} {scope : Scope} {dV kV doc pm cdv0 cdv ct oc : Value} {an od : Option Addr} {osl : Array (Option Value)} {fa L : Addr}  {led : List (Addr × Obj)}    {m : Str → Option Value} {oT oM : Obj} {g : Heap} {st : Stmt} {lm lt : Addr} {vm ut : List Value} {ns ts : List Int} {nn : Nat} {ld : Addr} {us : List Value} {is : List Int} {n : Nat} (hb : (hd.heap_39 w.params).lookup 185 = some ⟨oc, od, .func (fnX name qual params body scope [] dV kV doc pm an cdv0 ct), osl⟩) (hst : body[8]? = some st) (X : (hd.heap_39 w.params).In g) (T : Top hd.view_39 (looseW hd.view_39 [Str.ofString "insort_left", Str.ofString "bisect_left", Str.ofString "Whitespace"]) mean mg mb g)
    (hm : ∀ p ∈ [(Str.ofString "told", Value.ref ld)], m p.1 = some p.2)
    (F : Fr g L s.heap m) (N : News g L s.heap ((ld, listOf us.toArray n) :: (L + 1 + 1 + 1, oM) :: (lm, listOf vm.toArray nn) :: (L + 1 + 1 + 1 + 1 + 1, oT) :: (lt, LCg.lst ut) :: led)) (dT : oT.data = .cell (some (.ref lt))) (dM : oM.data = .cell (some (.ref lm))) (hi : IntsAre vm ns) (hn : ns.length = 4) (hit : IntsAre ut ts) (hnt : ts.length = 4) (hi1 : IntsAre us is)
    (hch : ∀ r : List Int, r.Perm (chL ns) → r.Pairwise (· ≤ ·) → r = is) (hhv : hvF ns = is)
    (h : ∀ h' tk', Fr g L h' m → News g L h' ((ld, listOf us.toArray n) :: (L + 1 + 1 + 1, oM) :: (lm, listOf vm.toArray nn) :: (L + 1 + 1 + 1 + 1 + 1, oT) :: (lt, LCg.lst ut) :: led) → Q .next { s with heap := h', toks := tk' }) :
    wpAny (model Pg w) (Ar 400 200) (exec st (envOfC qual scope L fa cdv)) Q E s := by
  have e0 := look_eq hb (by k_is)
  revert hst
  refine law_at (P := fun qual body scope => (body[8]? = some st) → wpAny (model Pg w) (Ar 400 200) (exec st (envOfC qual scope L fa cdv)) Q E s) e0 ?_
  clear e0 hb
  intro hst
  injection hst with hst
  subst hst

  k_unmd
  replace F := fr_ps0 hm F
  dsimp only [kstB] at F
  repeat (first | (k_unfold; (try dsimp only)) | ((fail_if_success (with_reducible show wpAny _ _ (call (Value.ref 133) _) _ _ _)); (fail_if_success (with_reducible show wpAny _ _ (call (Value.ref 140) _) _ _ _)); (fail_if_success (with_reducible show wpAny _ _ (call (Value.ref 122) _) _ _ _)); (fail_if_success (with_reducible show wpAny _ _ (execs _ _) _ _ _)); (fail_if_success (with_reducible show wpAny _ _ (pyIter _) _ _ _)); (fail_if_success (with_reducible show wpAny _ _ (eval (PySem.Expr.ListComp _ _ _ _) _) _ _ _)); (fail_if_success (with_reducible show wpAny _ _ (subscriptTail _ (PySem.Expr.Slice _ _ _ _) _ _) _ _ _)); (fail_if_success (with_reducible show wpAny _ _ (call (Value.ref 166) _) _ _ _)); (fail_if_success (with_reducible show wpAny _ _ (call (Value.ref 173) _) _ _ _)); (fail_if_success (with_reducible show wpAny _ _ (call (Value.ref 180) _) _ _ _)); (fail_if_success (with_reducible show wpAny _ _ (call (Value.ref 145) _) _ _ _)); (fail_if_success (with_reducible show LCt.CompSrcT _ _ _ _ _ _ _ _ _ _ _ _ _ _ _)); (fail_if_success (with_reducible show LCg.CompSrc _ _ _ _ _ _ _ _ _ _ _ _ _ _)); (fail_if_success (with_reducible show LCg.CompEnd _ _ _ _ _ _ _ _ _ _ _ _ _ _)); (fail_if_success (with_reducible show RL.CellSrc _ _ _ _ _ _ _ _ _ _ _ _ _ _)); (fail_if_success (with_reducible show wpAny _ _ (compareOp _ (Value.ref _) (Value.ref _)) _ _ _)); first | walk1 | (dsimp only; walk1)))
  have hl : s.heap.IsList lm vm.toArray := news_list N (List.mem_cons_of_mem _ (List.mem_cons_of_mem _ List.mem_cons_self))
  refine lower rfl (by decide) (by decide) (c_choice (Frag.In.keeps X F.keep) (Top.keeps T F.keep) hl hi hn ?_)
  intro h1 tk1 lr ur nr hkp hnew hlr r hir hpr hso
  (try dsimp only at hkp)
  (try dsimp only at hnew)
  have F1 := F.keeps hkp
  have N1 := news_new F N hkp hnew hlr
  have er : r = is := hch r hpr hso
  subst er
  clear F N hl
  (try dsimp only)
  repeat (first | (k_unfold; (try dsimp only)) | ((fail_if_success (with_reducible show wpAny _ _ (call (Value.ref 133) _) _ _ _)); (fail_if_success (with_reducible show wpAny _ _ (call (Value.ref 140) _) _ _ _)); (fail_if_success (with_reducible show wpAny _ _ (call (Value.ref 122) _) _ _ _)); (fail_if_success (with_reducible show wpAny _ _ (execs _ _) _ _ _)); (fail_if_success (with_reducible show wpAny _ _ (pyIter _) _ _ _)); (fail_if_success (with_reducible show wpAny _ _ (eval (PySem.Expr.ListComp _ _ _ _) _) _ _ _)); (fail_if_success (with_reducible show wpAny _ _ (subscriptTail _ (PySem.Expr.Slice _ _ _ _) _ _) _ _ _)); (fail_if_success (with_reducible show wpAny _ _ (call (Value.ref 166) _) _ _ _)); (fail_if_success (with_reducible show wpAny _ _ (call (Value.ref 173) _) _ _ _)); (fail_if_success (with_reducible show wpAny _ _ (call (Value.ref 180) _) _ _ _)); (fail_if_success (with_reducible show wpAny _ _ (call (Value.ref 145) _) _ _ _)); (fail_if_success (with_reducible show LCt.CompSrcT _ _ _ _ _ _ _ _ _ _ _ _ _ _ _)); (fail_if_success (with_reducible show LCg.CompSrc _ _ _ _ _ _ _ _ _ _ _ _ _ _)); (fail_if_success (with_reducible show LCg.CompEnd _ _ _ _ _ _ _ _ _ _ _ _ _ _)); (fail_if_success (with_reducible show RL.CellSrc _ _ _ _ _ _ _ _ _ _ _ _ _ _)); (fail_if_success (with_reducible show wpAny _ _ (compareOp _ (Value.ref _) (Value.ref _)) _ _ _)); first | walk1 | (dsimp only; walk1)))
  refine ke_ne_ints (news_list N1 (List.mem_cons_of_mem _ List.mem_cons_self)) (news_list N1 List.mem_cons_self) hi1 hir (by ke_room) ?_
  rw [decide_eq_true rfl]
  repeat (first | (k_unfold; (try dsimp only)) | ((fail_if_success (with_reducible show wpAny _ _ (call (Value.ref 133) _) _ _ _)); (fail_if_success (with_reducible show wpAny _ _ (call (Value.ref 140) _) _ _ _)); (fail_if_success (with_reducible show wpAny _ _ (call (Value.ref 122) _) _ _ _)); (fail_if_success (with_reducible show wpAny _ _ (execs _ _) _ _ _)); (fail_if_success (with_reducible show wpAny _ _ (pyIter _) _ _ _)); (fail_if_success (with_reducible show wpAny _ _ (eval (PySem.Expr.ListComp _ _ _ _) _) _ _ _)); (fail_if_success (with_reducible show wpAny _ _ (subscriptTail _ (PySem.Expr.Slice _ _ _ _) _ _) _ _ _)); (fail_if_success (with_reducible show wpAny _ _ (call (Value.ref 166) _) _ _ _)); (fail_if_success (with_reducible show wpAny _ _ (call (Value.ref 173) _) _ _ _)); (fail_if_success (with_reducible show wpAny _ _ (call (Value.ref 180) _) _ _ _)); (fail_if_success (with_reducible show wpAny _ _ (call (Value.ref 145) _) _ _ _)); (fail_if_success (with_reducible show LCt.CompSrcT _ _ _ _ _ _ _ _ _ _ _ _ _ _ _)); (fail_if_success (with_reducible show LCg.CompSrc _ _ _ _ _ _ _ _ _ _ _ _ _ _)); (fail_if_success (with_reducible show LCg.CompEnd _ _ _ _ _ _ _ _ _ _ _ _ _ _)); (fail_if_success (with_reducible show RL.CellSrc _ _ _ _ _ _ _ _ _ _ _ _ _ _)); (fail_if_success (with_reducible show wpAny _ _ (compareOp _ (Value.ref _) (Value.ref _)) _ _ _)); first | walk1 | (dsimp only; walk1)))
  have hl3 : h1.IsList lm vm.toArray := news_list N1 (List.mem_cons_of_mem _ (List.mem_cons_of_mem _ (List.mem_cons_of_mem _ List.mem_cons_self)))
  refine lower rfl (by decide) (by decide) (c_halving (Frag.In.keeps X F1.keep) (Top.keeps T F1.keep) hl3 hi hn ?_)
  intro h3 tk3 lq uq nq hkp3 hnew3 hlq hiq
  (try dsimp only at hkp3)
  (try dsimp only at hnew3)
  have F3 := F1.keeps hkp3
  have N3 := news_new F1 N1 hkp3 hnew3 hlq
  rw [hhv] at hiq
  clear F1 N1 hl3
  (try dsimp only)
  repeat (first | (k_unfold; (try dsimp only)) | ((fail_if_success (with_reducible show wpAny _ _ (call (Value.ref 133) _) _ _ _)); (fail_if_success (with_reducible show wpAny _ _ (call (Value.ref 140) _) _ _ _)); (fail_if_success (with_reducible show wpAny _ _ (call (Value.ref 122) _) _ _ _)); (fail_if_success (with_reducible show wpAny _ _ (execs _ _) _ _ _)); (fail_if_success (with_reducible show wpAny _ _ (pyIter _) _ _ _)); (fail_if_success (with_reducible show wpAny _ _ (eval (PySem.Expr.ListComp _ _ _ _) _) _ _ _)); (fail_if_success (with_reducible show wpAny _ _ (subscriptTail _ (PySem.Expr.Slice _ _ _ _) _ _) _ _ _)); (fail_if_success (with_reducible show wpAny _ _ (call (Value.ref 166) _) _ _ _)); (fail_if_success (with_reducible show wpAny _ _ (call (Value.ref 173) _) _ _ _)); (fail_if_success (with_reducible show wpAny _ _ (call (Value.ref 180) _) _ _ _)); (fail_if_success (with_reducible show wpAny _ _ (call (Value.ref 145) _) _ _ _)); (fail_if_success (with_reducible show LCt.CompSrcT _ _ _ _ _ _ _ _ _ _ _ _ _ _ _)); (fail_if_success (with_reducible show LCg.CompSrc _ _ _ _ _ _ _ _ _ _ _ _ _ _)); (fail_if_success (with_reducible show LCg.CompEnd _ _ _ _ _ _ _ _ _ _ _ _ _ _)); (fail_if_success (with_reducible show RL.CellSrc _ _ _ _ _ _ _ _ _ _ _ _ _ _)); (fail_if_success (with_reducible show wpAny _ _ (compareOp _ (Value.ref _) (Value.ref _)) _ _ _)); first | walk1 | (dsimp only; walk1)))
  refine ke_ne_ints (news_list N3 (List.mem_cons_of_mem _ (List.mem_cons_of_mem _ List.mem_cons_self))) (news_list N3 List.mem_cons_self) hi1 hiq (by ke_room) ?_
  rw [decide_eq_true rfl]
  repeat (first | (k_unfold; (try dsimp only)) | ((fail_if_success (with_reducible show wpAny _ _ (call (Value.ref 133) _) _ _ _)); (fail_if_success (with_reducible show wpAny _ _ (call (Value.ref 140) _) _ _ _)); (fail_if_success (with_reducible show wpAny _ _ (call (Value.ref 122) _) _ _ _)); (fail_if_success (with_reducible show wpAny _ _ (execs _ _) _ _ _)); (fail_if_success (with_reducible show wpAny _ _ (pyIter _) _ _ _)); (fail_if_success (with_reducible show wpAny _ _ (eval (PySem.Expr.ListComp _ _ _ _) _) _ _ _)); (fail_if_success (with_reducible show wpAny _ _ (subscriptTail _ (PySem.Expr.Slice _ _ _ _) _ _) _ _ _)); (fail_if_success (with_reducible show wpAny _ _ (call (Value.ref 166) _) _ _ _)); (fail_if_success (with_reducible show wpAny _ _ (call (Value.ref 173) _) _ _ _)); (fail_if_success (with_reducible show wpAny _ _ (call (Value.ref 180) _) _ _ _)); (fail_if_success (with_reducible show wpAny _ _ (call (Value.ref 145) _) _ _ _)); (fail_if_success (with_reducible show LCt.CompSrcT _ _ _ _ _ _ _ _ _ _ _ _ _ _ _)); (fail_if_success (with_reducible show LCg.CompSrc _ _ _ _ _ _ _ _ _ _ _ _ _ _)); (fail_if_success (with_reducible show LCg.CompEnd _ _ _ _ _ _ _ _ _ _ _ _ _ _)); (fail_if_success (with_reducible show RL.CellSrc _ _ _ _ _ _ _ _ _ _ _ _ _ _)); (fail_if_success (with_reducible show wpAny _ _ (compareOp _ (Value.ref _) (Value.ref _)) _ _ _)); first | walk1 | (dsimp only; walk1)))
  (try dsimp only)
  refine wpAny_execs_nil ?_
  exact h _ _ (by rw [← kst_back hm]; exact F3) (fun p hp => N3 p (List.mem_cons_of_mem _ (List.mem_cons_of_mem _ hp)))
theorem st_partners {w : World} {s : Shared} {mean : ExcName → Option Value} {mg mb : Str → Option Value} {Q : Flow → Shared → Prop} {E : Value → Shared → Prop} {name qual : Str} {params : Arguments} {body : List Stmt} {scope : Scope} {dV kV doc pm cdv0 cdv ct oc : Value} {an od : Option Addr} {osl : Array (Option Value)} {fa L : Addr}  {led : List (Addr × Obj)}    {m : Str → Option Value} {oT oM : Obj} {g : Heap} {st : Stmt} {lm lt : Addr} {vm ut : List Value} {ns ts : List Int} {nn : Nat} {ld : Addr} {us : List Value} {is : List Int} {n : Nat} (hb : (hd.heap_39 w.params).lookup 185 = some ⟨oc, od, .func (fnX name qual params body scope [] dV kV doc pm an cdv0 ct), osl⟩) (hst : body[9]? = some st) (X : (hd.heap_39 w.params).In g) (T : Top hd.view_39 (looseW hd.view_39 [Str.ofString "insort_left", Str.ofString "bisect_left", Str.ofString "Whitespace"]) mean mg mb g)
    (hm : ∀ p ∈ [(Str.ofString "told", Value.ref ld)], m p.1 = some p.2)
    (F : Fr g L s.heap m) (N : News g L s.heap ((ld, listOf us.toArray n) :: (L + 1 + 1 + 1, oM) :: (lm, listOf vm.toArray nn) :: (L + 1 + 1 + 1 + 1 + 1, oT) :: (lt, LCg.lst ut) :: led)) (dT : oT.data = .cell (some (.ref lt))) (dM : oM.data = .cell (some (.ref lm))) (hi : IntsAre vm ns) (hn : ns.length = 4) (hit : IntsAre ut ts) (hnt : ts.length = 4) (hi1 : IntsAre us is) (hlen : is.length ≤ 16)
    (h : ∀ h' tk' lp up, Fr g L h' (fun z => if z = Str.ofString "partners" then some (.ref lp) else m z) → News g L h' ((lp, LCg.lst up) :: (ld, listOf us.toArray n) :: (L + 1 + 1 + 1, oM) :: (lm, listOf vm.toArray nn) :: (L + 1 + 1 + 1 + 1 + 1, oT) :: (lt, LCg.lst ut) :: led) → IntsAre up (is.map (shF ns)) → Q .next { s with heap := h', toks := tk' }) :
    wpAny (model Pg w) (Ar 400 200) (exec st (envOfC qual scope L fa cdv)) Q E s := by
  have e0 := look_eq hb (by k_is)
  revert hst
  refine law_at (P := fun qual body scope => (body[9]? = some st) → wpAny (model Pg w) (Ar 400 200) (exec st (envOfC qual scope L fa cdv)) Q E s) e0 ?_
  clear e0 hb
  intro hst
  injection hst with hst
  subst hst

  k_unmd
  replace F := fr_ps0 hm F
  dsimp only [kstB] at F
  k_dflt (refine LCg.Assign_ListComp_U (F₀ := F) (by rfl) (by with_unfolding_all rfl) (by with_unfolding_all rfl) (by decide) (by rfl) (by decide) (by rfl) (by rfl) (by rfl) ?_)
  repeat (first | (k_unfold; (try dsimp only)) | ((fail_if_success (with_reducible show wpAny _ _ (call (Value.ref 133) _) _ _ _)); (fail_if_success (with_reducible show wpAny _ _ (call (Value.ref 140) _) _ _ _)); (fail_if_success (with_reducible show wpAny _ _ (call (Value.ref 122) _) _ _ _)); (fail_if_success (with_reducible show wpAny _ _ (execs _ _) _ _ _)); (fail_if_success (with_reducible show wpAny _ _ (pyIter _) _ _ _)); (fail_if_success (with_reducible show wpAny _ _ (eval (PySem.Expr.ListComp _ _ _ _) _) _ _ _)); (fail_if_success (with_reducible show wpAny _ _ (subscriptTail _ (PySem.Expr.Slice _ _ _ _) _ _) _ _ _)); (fail_if_success (with_reducible show wpAny _ _ (call (Value.ref 166) _) _ _ _)); (fail_if_success (with_reducible show wpAny _ _ (call (Value.ref 173) _) _ _ _)); (fail_if_success (with_reducible show wpAny _ _ (call (Value.ref 180) _) _ _ _)); (fail_if_success (with_reducible show wpAny _ _ (call (Value.ref 145) _) _ _ _)); (fail_if_success (with_reducible show LCt.CompSrcT _ _ _ _ _ _ _ _ _ _ _ _ _ _ _)); (fail_if_success (with_reducible show LCg.CompSrc _ _ _ _ _ _ _ _ _ _ _ _ _ _)); (fail_if_success (with_reducible show LCg.CompEnd _ _ _ _ _ _ _ _ _ _ _ _ _ _)); (fail_if_success (with_reducible show RL.CellSrc _ _ _ _ _ _ _ _ _ _ _ _ _ _)); (fail_if_success (with_reducible show wpAny _ _ (compareOp _ (Value.ref _) (Value.ref _)) _ _ _)); first | walk1 | (dsimp only; walk1)))
  k_dflt (refine LCg.CompSrc.ledger (by rfl) F N List.mem_cons_self (by have := hi1.length; rw [PySem.sizeLine_eq, List.size_toArray]; omega) ?_)
  intro g'
  k_dflt (refine' kcf_list (shF ns) hi1 (fun k' t' I' oI' C' oC' D' m' ys' h' tk' E' hk' hC' hx' F' N' off' ne' hMark' => ?_) ?_)
  · clear F N
    dsimp only
    repeat (first | (k_unfold; (try dsimp only)) | ((fail_if_success (with_reducible show wpAny _ _ (call (Value.ref 133) _) _ _ _)); (fail_if_success (with_reducible show wpAny _ _ (call (Value.ref 140) _) _ _ _)); (fail_if_success (with_reducible show wpAny _ _ (call (Value.ref 122) _) _ _ _)); (fail_if_success (with_reducible show wpAny _ _ (execs _ _) _ _ _)); (fail_if_success (with_reducible show wpAny _ _ (pyIter _) _ _ _)); (fail_if_success (with_reducible show wpAny _ _ (eval (PySem.Expr.ListComp _ _ _ _) _) _ _ _)); (fail_if_success (with_reducible show wpAny _ _ (subscriptTail _ (PySem.Expr.Slice _ _ _ _) _ _) _ _ _)); (fail_if_success (with_reducible show wpAny _ _ (call (Value.ref 166) _) _ _ _)); (fail_if_success (with_reducible show wpAny _ _ (call (Value.ref 173) _) _ _ _)); (fail_if_success (with_reducible show wpAny _ _ (call (Value.ref 180) _) _ _ _)); (fail_if_success (with_reducible show wpAny _ _ (call (Value.ref 145) _) _ _ _)); (fail_if_success (with_reducible show LCt.CompSrcT _ _ _ _ _ _ _ _ _ _ _ _ _ _ _)); (fail_if_success (with_reducible show LCg.CompSrc _ _ _ _ _ _ _ _ _ _ _ _ _ _)); (fail_if_success (with_reducible show LCg.CompEnd _ _ _ _ _ _ _ _ _ _ _ _ _ _)); (fail_if_success (with_reducible show RL.CellSrc _ _ _ _ _ _ _ _ _ _ _ _ _ _)); (fail_if_success (with_reducible show wpAny _ _ (compareOp _ (Value.ref _) (Value.ref _)) _ _ _)); first | walk1 | (dsimp only; walk1)))
    have hl9 : h'.IsList lm vm.toArray := news_list N' (by simp only [List.mem_cons]; exact .inr (.inr (.inr (.inr (.inr (.inl rfl))))))
    refine lower rfl (by decide) (by decide) (c_shared (Frag.In.keeps X F'.keep) (Top.keeps T F'.keep) hl9 hi hn ?_)
    intro h9 tk9 t9 hk9
    exact LCg.CompEnd.intro (F'.keeps hk9) (N'.grown hk9) _ (fun p hp => hp) off' (.inr ⟨_, List.mem_cons_self, rfl, _, rfl⟩) (kcf_el rfl rfl rfl)
  · unfold KPfDone
    intro ys hys D6 h6 tk6 F6 N6 off6
    dsimp only
    refine h _ _ D6 ys ?_ N6 hys
    have e := kst_back hm
    dsimp only [kstB] at e
    rw [← e]
    exact F6
theorem st_back {w : World} {s : Shared} {mean : ExcName → Option Value} {mg mb : Str → Option Value} {Q : Flow → Shared → Prop} {E : Value → Shared → Prop} {name qual : Str} {params : Arguments} {body : List Stmt} {scope : Scope} {dV kV doc pm cdv0 cdv ct oc : Value} {an od : Option Addr} {osl : Array (Option Value)} {fa L : Addr}  {led : List (Addr × Obj)}    {m : Str → Option Value} {oT oM : Obj} {g : Heap} {st : Stmt} {lm lt : Addr} {vm ut : List Value} {ns ts : List Int} {nn : Nat} {ld lp : Addr} {us up : List Value} {is ps : List Int} {n : Nat} (hb : (hd.heap_39 w.params).lookup 185 = some ⟨oc, od, .func (fnX name qual params body scope [] dV kV doc pm an cdv0 ct), osl⟩) (hst : body[11]? = some st) (X : (hd.heap_39 w.params).In g) (T : Top hd.view_39 (looseW hd.view_39 [Str.ofString "insort_left", Str.ofString "bisect_left", Str.ofString "Whitespace"]) mean mg mb g)
    (hm : ∀ p ∈ [(Str.ofString "told", Value.ref ld), (Str.ofString "partners", Value.ref lp)], m p.1 = some p.2)
    (F : Fr g L s.heap m) (N : News g L s.heap ((lp, LCg.lst up) :: (ld, listOf us.toArray n) :: (L + 1 + 1 + 1, oM) :: (lm, listOf vm.toArray nn) :: (L + 1 + 1 + 1 + 1 + 1, oT) :: (lt, LCg.lst ut) :: led)) (dT : oT.data = .cell (some (.ref lt))) (dM : oM.data = .cell (some (.ref lm))) (hi : IntsAre vm ns) (hn : ns.length = 4) (hit : IntsAre ut ts) (hnt : ts.length = 4) (hi1 : IntsAre us is) (hip : IntsAre up ps) (hlen : ps.length ≤ 16) (hbk : ps.map (shF ts) = is)
    (h : ∀ h' tk', Fr g L h' m → News g L h' ((lp, LCg.lst up) :: (ld, listOf us.toArray n) :: (L + 1 + 1 + 1, oM) :: (lm, listOf vm.toArray nn) :: (L + 1 + 1 + 1 + 1 + 1, oT) :: (lt, LCg.lst ut) :: led) → Q .next { s with heap := h', toks := tk' }) :
    wpAny (model Pg w) (Ar 400 200) (exec st (envOfC qual scope L fa cdv)) Q E s := by
  have e0 := look_eq hb (by k_is)
  revert hst
  refine law_at (P := fun qual body scope => (body[11]? = some st) → wpAny (model Pg w) (Ar 400 200) (exec st (envOfC qual scope L fa cdv)) Q E s) e0 ?_
  clear e0 hb
  intro hst
  injection hst with hst
  subst hst

  k_unmd
  replace F := fr_ps0 hm F
  dsimp only [kstB] at F
  repeat (first | (k_unfold; (try dsimp only)) | ((fail_if_success (with_reducible show wpAny _ _ (call (Value.ref 133) _) _ _ _)); (fail_if_success (with_reducible show wpAny _ _ (call (Value.ref 140) _) _ _ _)); (fail_if_success (with_reducible show wpAny _ _ (call (Value.ref 122) _) _ _ _)); (fail_if_success (with_reducible show wpAny _ _ (execs _ _) _ _ _)); (fail_if_success (with_reducible show wpAny _ _ (pyIter _) _ _ _)); (fail_if_success (with_reducible show wpAny _ _ (eval (PySem.Expr.ListComp _ _ _ _) _) _ _ _)); (fail_if_success (with_reducible show wpAny _ _ (subscriptTail _ (PySem.Expr.Slice _ _ _ _) _ _) _ _ _)); (fail_if_success (with_reducible show wpAny _ _ (call (Value.ref 166) _) _ _ _)); (fail_if_success (with_reducible show wpAny _ _ (call (Value.ref 173) _) _ _ _)); (fail_if_success (with_reducible show wpAny _ _ (call (Value.ref 180) _) _ _ _)); (fail_if_success (with_reducible show wpAny _ _ (call (Value.ref 145) _) _ _ _)); (fail_if_success (with_reducible show LCt.CompSrcT _ _ _ _ _ _ _ _ _ _ _ _ _ _ _)); (fail_if_success (with_reducible show LCg.CompSrc _ _ _ _ _ _ _ _ _ _ _ _ _ _)); (fail_if_success (with_reducible show LCg.CompEnd _ _ _ _ _ _ _ _ _ _ _ _ _ _)); (fail_if_success (with_reducible show RL.CellSrc _ _ _ _ _ _ _ _ _ _ _ _ _ _)); (fail_if_success (with_reducible show wpAny _ _ (compareOp _ (Value.ref _) (Value.ref _)) _ _ _)); first | walk1 | (dsimp only; walk1)))
  k_dflt (refine LCg.ListComp_U (F₀ := F) (by with_unfolding_all rfl) (by decide) (by rfl) (by decide) (by rfl) ?_)
  repeat (first | (k_unfold; (try dsimp only)) | ((fail_if_success (with_reducible show wpAny _ _ (call (Value.ref 133) _) _ _ _)); (fail_if_success (with_reducible show wpAny _ _ (call (Value.ref 140) _) _ _ _)); (fail_if_success (with_reducible show wpAny _ _ (call (Value.ref 122) _) _ _ _)); (fail_if_success (with_reducible show wpAny _ _ (execs _ _) _ _ _)); (fail_if_success (with_reducible show wpAny _ _ (pyIter _) _ _ _)); (fail_if_success (with_reducible show wpAny _ _ (eval (PySem.Expr.ListComp _ _ _ _) _) _ _ _)); (fail_if_success (with_reducible show wpAny _ _ (subscriptTail _ (PySem.Expr.Slice _ _ _ _) _ _) _ _ _)); (fail_if_success (with_reducible show wpAny _ _ (call (Value.ref 166) _) _ _ _)); (fail_if_success (with_reducible show wpAny _ _ (call (Value.ref 173) _) _ _ _)); (fail_if_success (with_reducible show wpAny _ _ (call (Value.ref 180) _) _ _ _)); (fail_if_success (with_reducible show wpAny _ _ (call (Value.ref 145) _) _ _ _)); (fail_if_success (with_reducible show LCt.CompSrcT _ _ _ _ _ _ _ _ _ _ _ _ _ _ _)); (fail_if_success (with_reducible show LCg.CompSrc _ _ _ _ _ _ _ _ _ _ _ _ _ _)); (fail_if_success (with_reducible show LCg.CompEnd _ _ _ _ _ _ _ _ _ _ _ _ _ _)); (fail_if_success (with_reducible show RL.CellSrc _ _ _ _ _ _ _ _ _ _ _ _ _ _)); (fail_if_success (with_reducible show wpAny _ _ (compareOp _ (Value.ref _) (Value.ref _)) _ _ _)); first | walk1 | (dsimp only; walk1)))
  k_dflt (refine LCg.CompSrc.ledger (by rfl) F N List.mem_cons_self (by have := hip.length; rw [PySem.sizeLine_eq, List.size_toArray]; omega) ?_)
  intro g'
  k_dflt (refine' kcf_list (shF ts) hip (fun k' t' I' oI' C' oC' D' m' ys' h' tk' E' hk' hC' hx' F' N' off' ne' hMark' => ?_) ?_)
  · clear F N
    dsimp only
    repeat (first | (k_unfold; (try dsimp only)) | ((fail_if_success (with_reducible show wpAny _ _ (call (Value.ref 133) _) _ _ _)); (fail_if_success (with_reducible show wpAny _ _ (call (Value.ref 140) _) _ _ _)); (fail_if_success (with_reducible show wpAny _ _ (call (Value.ref 122) _) _ _ _)); (fail_if_success (with_reducible show wpAny _ _ (execs _ _) _ _ _)); (fail_if_success (with_reducible show wpAny _ _ (pyIter _) _ _ _)); (fail_if_success (with_reducible show wpAny _ _ (eval (PySem.Expr.ListComp _ _ _ _) _) _ _ _)); (fail_if_success (with_reducible show wpAny _ _ (subscriptTail _ (PySem.Expr.Slice _ _ _ _) _ _) _ _ _)); (fail_if_success (with_reducible show wpAny _ _ (call (Value.ref 166) _) _ _ _)); (fail_if_success (with_reducible show wpAny _ _ (call (Value.ref 173) _) _ _ _)); (fail_if_success (with_reducible show wpAny _ _ (call (Value.ref 180) _) _ _ _)); (fail_if_success (with_reducible show wpAny _ _ (call (Value.ref 145) _) _ _ _)); (fail_if_success (with_reducible show LCt.CompSrcT _ _ _ _ _ _ _ _ _ _ _ _ _ _ _)); (fail_if_success (with_reducible show LCg.CompSrc _ _ _ _ _ _ _ _ _ _ _ _ _ _)); (fail_if_success (with_reducible show LCg.CompEnd _ _ _ _ _ _ _ _ _ _ _ _ _ _)); (fail_if_success (with_reducible show RL.CellSrc _ _ _ _ _ _ _ _ _ _ _ _ _ _)); (fail_if_success (with_reducible show wpAny _ _ (compareOp _ (Value.ref _) (Value.ref _)) _ _ _)); first | walk1 | (dsimp only; walk1)))
    have hl9 : h'.IsList lt ut.toArray := news_list N' (by simp only [List.mem_cons]; exact .inr (.inr (.inr (.inr (.inr (.inr (.inr (.inr (.inl rfl)))))))))
    refine lower rfl (by decide) (by decide) (c_shared (Frag.In.keeps X F'.keep) (Top.keeps T F'.keep) hl9 hit hnt ?_)
    intro h9 tk9 t9 hk9
    exact LCg.CompEnd.intro (F'.keeps hk9) (N'.grown hk9) _ (fun p hp => hp) off' (.inr ⟨_, List.mem_cons_self, rfl, _, rfl⟩) (kcf_el rfl rfl rfl)
  · unfold KPfDone
    intro ys hys D6 h6 tk6 F6 N6 off6
    rw [hbk] at hys
    clear F N
    dsimp only
    repeat (first | (k_unfold; (try dsimp only)) | ((fail_if_success (with_reducible show wpAny _ _ (call (Value.ref 133) _) _ _ _)); (fail_if_success (with_reducible show wpAny _ _ (call (Value.ref 140) _) _ _ _)); (fail_if_success (with_reducible show wpAny _ _ (call (Value.ref 122) _) _ _ _)); (fail_if_success (with_reducible show wpAny _ _ (execs _ _) _ _ _)); (fail_if_success (with_reducible show wpAny _ _ (pyIter _) _ _ _)); (fail_if_success (with_reducible show wpAny _ _ (eval (PySem.Expr.ListComp _ _ _ _) _) _ _ _)); (fail_if_success (with_reducible show wpAny _ _ (subscriptTail _ (PySem.Expr.Slice _ _ _ _) _ _) _ _ _)); (fail_if_success (with_reducible show wpAny _ _ (call (Value.ref 166) _) _ _ _)); (fail_if_success (with_reducible show wpAny _ _ (call (Value.ref 173) _) _ _ _)); (fail_if_success (with_reducible show wpAny _ _ (call (Value.ref 180) _) _ _ _)); (fail_if_success (with_reducible show wpAny _ _ (call (Value.ref 145) _) _ _ _)); (fail_if_success (with_reducible show LCt.CompSrcT _ _ _ _ _ _ _ _ _ _ _ _ _ _ _)); (fail_if_success (with_reducible show LCg.CompSrc _ _ _ _ _ _ _ _ _ _ _ _ _ _)); (fail_if_success (with_reducible show LCg.CompEnd _ _ _ _ _ _ _ _ _ _ _ _ _ _)); (fail_if_success (with_reducible show RL.CellSrc _ _ _ _ _ _ _ _ _ _ _ _ _ _)); (fail_if_success (with_reducible show wpAny _ _ (compareOp _ (Value.ref _) (Value.ref _)) _ _ _)); first | walk1 | (dsimp only; walk1)))
    refine ke_ne_ints (news_list N6 List.mem_cons_self) (news_list N6 (List.mem_cons_of_mem _ (List.mem_cons_of_mem _ List.mem_cons_self))) hys hi1 (by ke_room) ?_
    rw [decide_eq_true rfl]
    repeat (first | (k_unfold; (try dsimp only)) | ((fail_if_success (with_reducible show wpAny _ _ (call (Value.ref 133) _) _ _ _)); (fail_if_success (with_reducible show wpAny _ _ (call (Value.ref 140) _) _ _ _)); (fail_if_success (with_reducible show wpAny _ _ (call (Value.ref 122) _) _ _ _)); (fail_if_success (with_reducible show wpAny _ _ (execs _ _) _ _ _)); (fail_if_success (with_reducible show wpAny _ _ (pyIter _) _ _ _)); (fail_if_success (with_reducible show wpAny _ _ (eval (PySem.Expr.ListComp _ _ _ _) _) _ _ _)); (fail_if_success (with_reducible show wpAny _ _ (subscriptTail _ (PySem.Expr.Slice _ _ _ _) _ _) _ _ _)); (fail_if_success (with_reducible show wpAny _ _ (call (Value.ref 166) _) _ _ _)); (fail_if_success (with_reducible show wpAny _ _ (call (Value.ref 173) _) _ _ _)); (fail_if_success (with_reducible show wpAny _ _ (call (Value.ref 180) _) _ _ _)); (fail_if_success (with_reducible show wpAny _ _ (call (Value.ref 145) _) _ _ _)); (fail_if_success (with_reducible show LCt.CompSrcT _ _ _ _ _ _ _ _ _ _ _ _ _ _ _)); (fail_if_success (with_reducible show LCg.CompSrc _ _ _ _ _ _ _ _ _ _ _ _ _ _)); (fail_if_success (with_reducible show LCg.CompEnd _ _ _ _ _ _ _ _ _ _ _ _ _ _)); (fail_if_success (with_reducible show RL.CellSrc _ _ _ _ _ _ _ _ _ _ _ _ _ _)); (fail_if_success (with_reducible show wpAny _ _ (compareOp _ (Value.ref _) (Value.ref _)) _ _ _)); first | walk1 | (dsimp only; walk1)))
    (try dsimp only)
    refine wpAny_execs_nil ?_
    exact h _ _ (by rw [← kst_back hm]; exact F6) (fun p hp => N6 p (List.mem_cons_of_mem _ hp))
theorem st_ret {w : World} {s : Shared} {mean : ExcName → Option Value} {mg mb : Str → Option Value} {Q : Flow → Shared → Prop} {E : Value → Shared → Prop} {name qual : Str} {params : Arguments} {body : List Stmt} {scope : Scope} {dV kV doc pm cdv0 cdv ct oc : Value} {an od : Option Addr} {osl : Array (Option Value)} {fa L : Addr}  {led : List (Addr × Obj)}    {m : Str → Option Value} {oT oM : Obj} {g : Heap} {st : Stmt} {lm lt : Addr} {vm ut : List Value} {ns ts : List Int} {nn : Nat} {lp : Addr} {up : List Value} {ps : List Int} (hb : (hd.heap_39 w.params).lookup 185 = some ⟨oc, od, .func (fnX name qual params body scope [] dV kV doc pm an cdv0 ct), osl⟩) (hst : body[12]? = some st) (X : (hd.heap_39 w.params).In g) (T : Top hd.view_39 (looseW hd.view_39 [Str.ofString "insort_left", Str.ofString "bisect_left", Str.ofString "Whitespace"]) mean mg mb g)
    (hm : ∀ p ∈ [(Str.ofString "partners", Value.ref lp)], m p.1 = some p.2)
    (F : Fr g L s.heap m) (N : News g L s.heap ((lp, LCg.lst up) :: (L + 1 + 1 + 1, oM) :: (lm, listOf vm.toArray nn) :: (L + 1 + 1 + 1 + 1 + 1, oT) :: (lt, LCg.lst ut) :: led)) (dT : oT.data = .cell (some (.ref lt))) (dM : oM.data = .cell (some (.ref lm))) (hi : IntsAre vm ns) (hn : ns.length = 4) (hit : IntsAre ut ts) (hnt : ts.length = 4) (hip : IntsAre up ps) (hlen : ps.length ≤ 16)
    (hfin : ∀ r : List Int, r.Perm ps → r.Pairwise (· ≤ ·) → r = tdF ts ns)
    (h : ∀ h' tk' m', Fr g L h' m' → Q (.ret (.bool true)) { s with heap := h', toks := tk' }) :
    wpAny (model Pg w) (Ar 400 200) (exec st (envOfC qual scope L fa cdv)) Q E s := by
  have e0 := look_eq hb (by k_is)
  revert hst
  refine law_at (P := fun qual body scope => (body[12]? = some st) → wpAny (model Pg w) (Ar 400 200) (exec st (envOfC qual scope L fa cdv)) Q E s) e0 ?_
  clear e0 hb
  intro hst
  injection hst with hst
  subst hst

  k_unmd
  replace F := fr_ps0 hm F
  dsimp only [kstB] at F
  repeat (first | (k_unfold; (try dsimp only)) | ((fail_if_success (with_reducible show wpAny _ _ (call (Value.ref 133) _) _ _ _)); (fail_if_success (with_reducible show wpAny _ _ (call (Value.ref 140) _) _ _ _)); (fail_if_success (with_reducible show wpAny _ _ (call (Value.ref 122) _) _ _ _)); (fail_if_success (with_reducible show wpAny _ _ (execs _ _) _ _ _)); (fail_if_success (with_reducible show wpAny _ _ (pyIter _) _ _ _)); (fail_if_success (with_reducible show wpAny _ _ (eval (PySem.Expr.ListComp _ _ _ _) _) _ _ _)); (fail_if_success (with_reducible show wpAny _ _ (subscriptTail _ (PySem.Expr.Slice _ _ _ _) _ _) _ _ _)); (fail_if_success (with_reducible show wpAny _ _ (call (Value.ref 166) _) _ _ _)); (fail_if_success (with_reducible show wpAny _ _ (call (Value.ref 173) _) _ _ _)); (fail_if_success (with_reducible show wpAny _ _ (call (Value.ref 180) _) _ _ _)); (fail_if_success (with_reducible show wpAny _ _ (call (Value.ref 145) _) _ _ _)); (fail_if_success (with_reducible show LCt.CompSrcT _ _ _ _ _ _ _ _ _ _ _ _ _ _ _)); (fail_if_success (with_reducible show LCg.CompSrc _ _ _ _ _ _ _ _ _ _ _ _ _ _)); (fail_if_success (with_reducible show LCg.CompEnd _ _ _ _ _ _ _ _ _ _ _ _ _ _)); (fail_if_success (with_reducible show RL.CellSrc _ _ _ _ _ _ _ _ _ _ _ _ _ _)); (fail_if_success (with_reducible show wpAny _ _ (compareOp _ (Value.ref _) (Value.ref _)) _ _ _)); first | walk1 | (dsimp only; walk1)))
  rename_i D1 v1 n1 c1 h1 F1 N1 i1 e1 p1 o1 b1 p0 l1
  have hl : h1.IsList lm vm.toArray := news_list N1 (by simp only [List.mem_cons]; exact .inr (.inr (.inr (.inl rfl))))
  have hl2 : h1.IsList lt ut.toArray := news_list N1 (by simp only [List.mem_cons]; exact .inr (.inr (.inr (.inr (.inr (.inl rfl))))))
  refine lower rfl (by decide) (by decide) (c_told (Frag.In.keeps X F1.keep) (Top.keeps T F1.keep) hl2 hit hnt hl hi hn ?_)
  intro h3 tk3 lq uq nq hkp3 hnew3 hlq hiq
  (try dsimp only at hkp3)
  (try dsimp only at hnew3)
  have F3 := F1.keeps hkp3
  have N3 := news_new F1 N1 hkp3 hnew3 hlq
  have en : n1 = tdF ts ns := hfin n1 p1 o1
  rw [en] at i1
  clear F1 N1 hl hl2
  (try dsimp only)
  refine ke_eq_ints (news_list N3 (List.mem_cons_of_mem _ List.mem_cons_self)) (news_list N3 List.mem_cons_self) i1 hiq (by ke_room) ?_
  rw [decide_eq_true rfl]
  exact h _ _ _ F3
end RL
end
section
open PySem PySem.W PyProof.Rows PySem.Calls
namespace RL
def dvG (ns : List Int) (x : Int) (l : List Int) (k : Int) : List Int := if Builtin.bitAnd (ns.getD k.toNat 0) x = x then l ++ [2 ^ (3 - k).toNat] else l
def dvF (ns : List Int) (x : Int) : Int := ((rangeKs 0 4).foldl (dvG ns x) []).sum
theorem st_same {w : World} {s : Shared} {mean : ExcName → Option Value} {mg mb : Str → Option Value} {Q : Flow → Shared → Prop} {E : Value → Shared → Prop} {name qual : Str} {params : Arguments} {body : List Stmt} {scope : Scope} {dV kV doc pm cdv0 cdv ct oc : Value} {an od : Option Addr} {osl : Array (Option Value)} {fa L : Addr}  {led : List (Addr × Obj)}    {m : Str → Option Value} {oT oM : Obj} {g : Heap} {st : Stmt} {lm lt : Addr} {vm ut : List Value} {ns ts : List Int} {nn : Nat} {ld lp : Addr} {us up : List Value} {is ps : List Int} {n : Nat} (hb : (hd.heap_39 w.params).lookup 185 = some ⟨oc, od, .func (fnX name qual params body scope [] dV kV doc pm an cdv0 ct), osl⟩) (hst : body[10]? = some st) (X : (hd.heap_39 w.params).In g) (T : Top hd.view_39 (looseW hd.view_39 [Str.ofString "insort_left", Str.ofString "bisect_left", Str.ofString "Whitespace"]) mean mg mb g)
    (hm : ∀ p ∈ [(Str.ofString "told", Value.ref ld), (Str.ofString "partners", Value.ref lp)], m p.1 = some p.2)
    (F : Fr g L s.heap m) (N : News g L s.heap ((lp, LCg.lst up) :: (ld, listOf us.toArray n) :: (L + 1 + 1 + 1, oM) :: (lm, listOf vm.toArray nn) :: (L + 1 + 1 + 1 + 1 + 1, oT) :: (lt, LCg.lst ut) :: led)) (dT : oT.data = .cell (some (.ref lt))) (dM : oM.data = .cell (some (.ref lm))) (hi : IntsAre vm ns) (hn : ns.length = 4) (hit : IntsAre ut ts) (hnt : ts.length = 4) (hi1 : IntsAre us is) (hlen : is.length ≤ 16) (hip : IntsAre up ps) (hbk : is.map (dvF ns) = ps)
    (h : ∀ h' tk', Fr g L h' m → News g L h' ((lp, LCg.lst up) :: (ld, listOf us.toArray n) :: (L + 1 + 1 + 1, oM) :: (lm, listOf vm.toArray nn) :: (L + 1 + 1 + 1 + 1 + 1, oT) :: (lt, LCg.lst ut) :: led) → Q .next { s with heap := h', toks := tk' }) :
    wpAny (model Pg w) (Ar 400 200) (exec st (envOfC qual scope L fa cdv)) Q E s := by
  have e0 := look_eq hb (by k_is)
  revert hst
  refine law_at (P := fun qual body scope => (body[10]? = some st) → wpAny (model Pg w) (Ar 400 200) (exec st (envOfC qual scope L fa cdv)) Q E s) e0 ?_
  clear e0 hb
  intro hst
  injection hst with hst
  subst hst

  k_unmd
  replace F := fr_ps0 hm F
  dsimp only [kstB] at F
  repeat (first | (k_unfold; (try dsimp only)) | ((fail_if_success (with_reducible show wpAny _ _ (call (Value.ref 133) _) _ _ _)); (fail_if_success (with_reducible show wpAny _ _ (call (Value.ref 140) _) _ _ _)); (fail_if_success (with_reducible show wpAny _ _ (call (Value.ref 122) _) _ _ _)); (fail_if_success (with_reducible show wpAny _ _ (execs _ _) _ _ _)); (fail_if_success (with_reducible show wpAny _ _ (pyIter _) _ _ _)); (fail_if_success (with_reducible show wpAny _ _ (eval (PySem.Expr.ListComp _ _ _ _) _) _ _ _)); (fail_if_success (with_reducible show wpAny _ _ (subscriptTail _ (PySem.Expr.Slice _ _ _ _) _ _) _ _ _)); (fail_if_success (with_reducible show wpAny _ _ (call (Value.ref 166) _) _ _ _)); (fail_if_success (with_reducible show wpAny _ _ (call (Value.ref 173) _) _ _ _)); (fail_if_success (with_reducible show wpAny _ _ (call (Value.ref 180) _) _ _ _)); (fail_if_success (with_reducible show wpAny _ _ (call (Value.ref 145) _) _ _ _)); (fail_if_success (with_reducible show LCt.CompSrcT _ _ _ _ _ _ _ _ _ _ _ _ _ _ _)); (fail_if_success (with_reducible show LCg.CompSrc _ _ _ _ _ _ _ _ _ _ _ _ _ _)); (fail_if_success (with_reducible show LCg.CompEnd _ _ _ _ _ _ _ _ _ _ _ _ _ _)); (fail_if_success (with_reducible show RL.CellSrc _ _ _ _ _ _ _ _ _ _ _ _ _ _)); (fail_if_success (with_reducible show wpAny _ _ (compareOp _ (Value.ref _) (Value.ref _)) _ _ _)); first | walk1 | (dsimp only; walk1)))
  refine lc_cell (h₀ := g) (L := L) (m := fun z => if z = Str.ofString "told" then some (Value.ref ld) else if z = Str.ofString "partners" then some (Value.ref lp) else m z) (fun n => rfl) (fun h => rfl) rfl rfl (by with_unfolding_all rfl) (by decide) ?_
  repeat (first | (k_unfold; (try dsimp only)) | ((fail_if_success (with_reducible show wpAny _ _ (call (Value.ref 133) _) _ _ _)); (fail_if_success (with_reducible show wpAny _ _ (call (Value.ref 140) _) _ _ _)); (fail_if_success (with_reducible show wpAny _ _ (call (Value.ref 122) _) _ _ _)); (fail_if_success (with_reducible show wpAny _ _ (execs _ _) _ _ _)); (fail_if_success (with_reducible show wpAny _ _ (pyIter _) _ _ _)); (fail_if_success (with_reducible show wpAny _ _ (eval (PySem.Expr.ListComp _ _ _ _) _) _ _ _)); (fail_if_success (with_reducible show wpAny _ _ (subscriptTail _ (PySem.Expr.Slice _ _ _ _) _ _) _ _ _)); (fail_if_success (with_reducible show wpAny _ _ (call (Value.ref 166) _) _ _ _)); (fail_if_success (with_reducible show wpAny _ _ (call (Value.ref 173) _) _ _ _)); (fail_if_success (with_reducible show wpAny _ _ (call (Value.ref 180) _) _ _ _)); (fail_if_success (with_reducible show wpAny _ _ (call (Value.ref 145) _) _ _ _)); (fail_if_success (with_reducible show LCt.CompSrcT _ _ _ _ _ _ _ _ _ _ _ _ _ _ _)); (fail_if_success (with_reducible show LCg.CompSrc _ _ _ _ _ _ _ _ _ _ _ _ _ _)); (fail_if_success (with_reducible show LCg.CompEnd _ _ _ _ _ _ _ _ _ _ _ _ _ _)); (fail_if_success (with_reducible show RL.CellSrc _ _ _ _ _ _ _ _ _ _ _ _ _ _)); (fail_if_success (with_reducible show wpAny _ _ (compareOp _ (Value.ref _) (Value.ref _)) _ _ _)); first | walk1 | (dsimp only; walk1)))
  have hsz := hi1.length
  refine .inl ⟨_, us.toArray, _, (fun i v => ∃ t, v = .int ((is.map (dvF ns)).getD i 0) t), rfl, rfl, news_list N (List.mem_cons_of_mem _ List.mem_cons_self), by rw [PySem.sizeLine_eq, List.size_toArray]; omega, F, N, fun g' => ?_, ?_⟩
  · rintro i v hv C c h3 tk3 E3 oCC oc m₂ hgC hLC hCc hnC hC hoC hc hdc F3 N3
    obtain ⟨x, tv, rfl, hx⟩ := IntsAre.at hi1 i v (by simpa using hv)
    have e1 : (is.map (dvF ns)).getD i 0 = dvF ns x := by simp [List.getD_eq_getElem?_getD, hx]
    dsimp only
    rw [e1]
    refine led_below (s := s) (R := fun v _ => ∃ t, v = Value.int (dvF ns x) t) F3 fun led2 NL => ?_
    have N4 : News g L h3 ((c, oc) :: (lm, listOf vm.toArray nn) :: (L + 1 + 1 + 1, oM) :: led2) := by
      intro p hp
      rcases List.mem_cons.mp hp with rfl | hp
      · exact ⟨hc, Nat.ne_of_gt (Nat.lt_trans hLC hCc), Heap.get?_none_of_le (Nat.le_trans hgC (Nat.le_of_lt hCc))⟩
      rcases List.mem_cons.mp hp with rfl | hp
      · exact N3 _ (List.mem_cons_of_mem _ (List.mem_cons_of_mem _ (List.mem_cons_of_mem _ List.mem_cons_self)))
      rcases List.mem_cons.mp hp with rfl | hp
      · exact N3 _ (List.mem_cons_of_mem _ (List.mem_cons_of_mem _ List.mem_cons_self))
      · exact NL _ hp
    clear N3 NL h hnC F N hv e1 hbk
    (try dsimp only)
    repeat (first | (k_unfold; (try dsimp only)) | ((fail_if_success (with_reducible show wpAny _ _ (call (Value.ref 133) _) _ _ _)); (fail_if_success (with_reducible show wpAny _ _ (call (Value.ref 140) _) _ _ _)); (fail_if_success (with_reducible show wpAny _ _ (call (Value.ref 122) _) _ _ _)); (fail_if_success (with_reducible show wpAny _ _ (execs _ _) _ _ _)); (fail_if_success (with_reducible show wpAny _ _ (pyIter _) _ _ _)); (fail_if_success (with_reducible show wpAny _ _ (eval (PySem.Expr.ListComp _ _ _ _) _) _ _ _)); (fail_if_success (with_reducible show wpAny _ _ (subscriptTail _ (PySem.Expr.Slice _ _ _ _) _ _) _ _ _)); (fail_if_success (with_reducible show wpAny _ _ (call (Value.ref 166) _) _ _ _)); (fail_if_success (with_reducible show wpAny _ _ (call (Value.ref 173) _) _ _ _)); (fail_if_success (with_reducible show wpAny _ _ (call (Value.ref 180) _) _ _ _)); (fail_if_success (with_reducible show wpAny _ _ (call (Value.ref 145) _) _ _ _)); (fail_if_success (with_reducible show LCt.CompSrcT _ _ _ _ _ _ _ _ _ _ _ _ _ _ _)); (fail_if_success (with_reducible show LCg.CompSrc _ _ _ _ _ _ _ _ _ _ _ _ _ _)); (fail_if_success (with_reducible show LCg.CompEnd _ _ _ _ _ _ _ _ _ _ _ _ _ _)); (fail_if_success (with_reducible show RL.CellSrc _ _ _ _ _ _ _ _ _ _ _ _ _ _)); (fail_if_success (with_reducible show wpAny _ _ (compareOp _ (Value.ref _) (Value.ref _)) _ _ _)); first | walk1 | (dsimp only; walk1)))
    k_dflt (refine LCt.ListComp_T (F₀ := F3) (by with_unfolding_all rfl) (by decide) (by rfl) (by decide) (by rfl) ?_)
    repeat (first | (k_unfold; (try dsimp only)) | ((fail_if_success (with_reducible show wpAny _ _ (call (Value.ref 133) _) _ _ _)); (fail_if_success (with_reducible show wpAny _ _ (call (Value.ref 140) _) _ _ _)); (fail_if_success (with_reducible show wpAny _ _ (call (Value.ref 122) _) _ _ _)); (fail_if_success (with_reducible show wpAny _ _ (execs _ _) _ _ _)); (fail_if_success (with_reducible show wpAny _ _ (pyIter _) _ _ _)); (fail_if_success (with_reducible show wpAny _ _ (eval (PySem.Expr.ListComp _ _ _ _) _) _ _ _)); (fail_if_success (with_reducible show wpAny _ _ (subscriptTail _ (PySem.Expr.Slice _ _ _ _) _ _) _ _ _)); (fail_if_success (with_reducible show wpAny _ _ (call (Value.ref 166) _) _ _ _)); (fail_if_success (with_reducible show wpAny _ _ (call (Value.ref 173) _) _ _ _)); (fail_if_success (with_reducible show wpAny _ _ (call (Value.ref 180) _) _ _ _)); (fail_if_success (with_reducible show wpAny _ _ (call (Value.ref 145) _) _ _ _)); (fail_if_success (with_reducible show LCt.CompSrcT _ _ _ _ _ _ _ _ _ _ _ _ _ _ _)); (fail_if_success (with_reducible show LCg.CompSrc _ _ _ _ _ _ _ _ _ _ _ _ _ _)); (fail_if_success (with_reducible show LCg.CompEnd _ _ _ _ _ _ _ _ _ _ _ _ _ _)); (fail_if_success (with_reducible show RL.CellSrc _ _ _ _ _ _ _ _ _ _ _ _ _ _)); (fail_if_success (with_reducible show wpAny _ _ (compareOp _ (Value.ref _) (Value.ref _)) _ _ _)); first | walk1 | (dsimp only; walk1)))
    rename_i hR2 F5 N5 hk5
    k_dflt (refine LCt.CompSrcT.range (by rfl) F5 N5 hR2 (by decide) (by rfl) (by exact Nat.le_of_ble_eq_true rfl) ?_)
    intro g2
    refine kci_range (n := 4) (dvG ns x) (fun k' t' I' oI' C' oC' D' m' ys' l' h' tk' E' hlo' hhi' hI' hC' hx' F' N' off' ne' => ?_) ?_ ?_
    · intro mk
      clear hR2 F5 N5 hk5
      dsimp only
      repeat (first | (k_unfold; (try dsimp only)) | ((fail_if_success (with_reducible show wpAny _ _ (call (Value.ref 133) _) _ _ _)); (fail_if_success (with_reducible show wpAny _ _ (call (Value.ref 140) _) _ _ _)); (fail_if_success (with_reducible show wpAny _ _ (call (Value.ref 122) _) _ _ _)); (fail_if_success (with_reducible show wpAny _ _ (execs _ _) _ _ _)); (fail_if_success (with_reducible show wpAny _ _ (pyIter _) _ _ _)); (fail_if_success (with_reducible show wpAny _ _ (eval (PySem.Expr.ListComp _ _ _ _) _) _ _ _)); (fail_if_success (with_reducible show wpAny _ _ (subscriptTail _ (PySem.Expr.Slice _ _ _ _) _ _) _ _ _)); (fail_if_success (with_reducible show wpAny _ _ (call (Value.ref 166) _) _ _ _)); (fail_if_success (with_reducible show wpAny _ _ (call (Value.ref 173) _) _ _ _)); (fail_if_success (with_reducible show wpAny _ _ (call (Value.ref 180) _) _ _ _)); (fail_if_success (with_reducible show wpAny _ _ (call (Value.ref 145) _) _ _ _)); (fail_if_success (with_reducible show LCt.CompSrcT _ _ _ _ _ _ _ _ _ _ _ _ _ _ _)); (fail_if_success (with_reducible show LCg.CompSrc _ _ _ _ _ _ _ _ _ _ _ _ _ _)); (fail_if_success (with_reducible show LCg.CompEnd _ _ _ _ _ _ _ _ _ _ _ _ _ _)); (fail_if_success (with_reducible show RL.CellSrc _ _ _ _ _ _ _ _ _ _ _ _ _ _)); (fail_if_success (with_reducible show wpAny _ _ (compareOp _ (Value.ref _) (Value.ref _)) _ _ _)); first | walk1 | (dsimp only; walk1)))
      · rename_i hc
        (try dsimp only)
        walk1
        repeat (first | (k_unfold; (try dsimp only)) | ((fail_if_success (with_reducible show wpAny _ _ (call (Value.ref 133) _) _ _ _)); (fail_if_success (with_reducible show wpAny _ _ (call (Value.ref 140) _) _ _ _)); (fail_if_success (with_reducible show wpAny _ _ (call (Value.ref 122) _) _ _ _)); (fail_if_success (with_reducible show wpAny _ _ (execs _ _) _ _ _)); (fail_if_success (with_reducible show wpAny _ _ (pyIter _) _ _ _)); (fail_if_success (with_reducible show wpAny _ _ (eval (PySem.Expr.ListComp _ _ _ _) _) _ _ _)); (fail_if_success (with_reducible show wpAny _ _ (subscriptTail _ (PySem.Expr.Slice _ _ _ _) _ _) _ _ _)); (fail_if_success (with_reducible show wpAny _ _ (call (Value.ref 166) _) _ _ _)); (fail_if_success (with_reducible show wpAny _ _ (call (Value.ref 173) _) _ _ _)); (fail_if_success (with_reducible show wpAny _ _ (call (Value.ref 180) _) _ _ _)); (fail_if_success (with_reducible show wpAny _ _ (call (Value.ref 145) _) _ _ _)); (fail_if_success (with_reducible show LCt.CompSrcT _ _ _ _ _ _ _ _ _ _ _ _ _ _ _)); (fail_if_success (with_reducible show LCg.CompSrc _ _ _ _ _ _ _ _ _ _ _ _ _ _)); (fail_if_success (with_reducible show LCg.CompEnd _ _ _ _ _ _ _ _ _ _ _ _ _ _)); (fail_if_success (with_reducible show RL.CellSrc _ _ _ _ _ _ _ _ _ _ _ _ _ _)); (fail_if_success (with_reducible show wpAny _ _ (compareOp _ (Value.ref _) (Value.ref _)) _ _ _)); first | walk1 | (dsimp only; walk1)))
        (try dsimp only)
        with_reducible rename Fr _ _ _ _ => kF
        with_reducible rename News _ _ _ _ => kN
        exact LCg.CompEnd.intro kF kN _ (fun p hp => hp) off' trivial (kci_el (by unfold dvG; rw [if_pos hc]) rfl rfl)
      · rename_i hc
        (try dsimp only)
        with_reducible rename Fr _ _ _ _ => kF
        with_reducible rename News _ _ _ _ => kN
        exact LCg.CompEnd.intro kF kN _ (fun p hp => hp) off' trivial (kci_no (by unfold dvG; rw [if_neg hc]) rfl)
    · intro ys hys hlen D hh tkk FF NN OO
      dsimp only
      repeat (first | (k_unfold; (try dsimp only)) | ((fail_if_success (with_reducible show wpAny _ _ (call (Value.ref 133) _) _ _ _)); (fail_if_success (with_reducible show wpAny _ _ (call (Value.ref 140) _) _ _ _)); (fail_if_success (with_reducible show wpAny _ _ (call (Value.ref 122) _) _ _ _)); (fail_if_success (with_reducible show wpAny _ _ (execs _ _) _ _ _)); (fail_if_success (with_reducible show wpAny _ _ (pyIter _) _ _ _)); (fail_if_success (with_reducible show wpAny _ _ (eval (PySem.Expr.ListComp _ _ _ _) _) _ _ _)); (fail_if_success (with_reducible show wpAny _ _ (subscriptTail _ (PySem.Expr.Slice _ _ _ _) _ _) _ _ _)); (fail_if_success (with_reducible show wpAny _ _ (call (Value.ref 166) _) _ _ _)); (fail_if_success (with_reducible show wpAny _ _ (call (Value.ref 173) _) _ _ _)); (fail_if_success (with_reducible show wpAny _ _ (call (Value.ref 180) _) _ _ _)); (fail_if_success (with_reducible show wpAny _ _ (call (Value.ref 145) _) _ _ _)); (fail_if_success (with_reducible show LCt.CompSrcT _ _ _ _ _ _ _ _ _ _ _ _ _ _ _)); (fail_if_success (with_reducible show LCg.CompSrc _ _ _ _ _ _ _ _ _ _ _ _ _ _)); (fail_if_success (with_reducible show LCg.CompEnd _ _ _ _ _ _ _ _ _ _ _ _ _ _)); (fail_if_success (with_reducible show RL.CellSrc _ _ _ _ _ _ _ _ _ _ _ _ _ _)); (fail_if_success (with_reducible show wpAny _ _ (compareOp _ (Value.ref _) (Value.ref _)) _ _ _)); first | walk1 | (dsimp only; walk1)))
      · rename_i F7 N7
        exact F7
      · rename_i F7 N7
        exact ⟨fun p hp => N7 p (List.mem_cons_of_mem _ (List.mem_cons_of_mem _ (List.mem_cons_of_mem _ (List.mem_cons_of_mem _ hp)))), _, rfl⟩
    · intro l k
      unfold dvG
      split <;> simp
  · intro D h3 tk3 ys F3 N3 hoff3 hyl hys
    have hit : IntsAre ys (is.map (dvF ns)) := by
      have z := ints_idx (f := fun i => (is.map (dvF ns)).getD i 0) hys
      have e2 : (List.range ys.length).map (fun i => (is.map (dvF ns)).getD i 0) = is.map (dvF ns) := by
        have e3 : ys.length = (is.map (dvF ns)).length := by rw [hyl, List.size_toArray, hsz, List.length_map]
        rw [e3]
        apply List.ext_getElem
        · simp
        · intro i h1 h2
          simp at h2
          simp [List.getD_eq_getElem?_getD, h2]
      rw [e2] at z
      exact z
    rw [hbk] at hit
    clear F N
    (try dsimp only)
    repeat (first | (k_unfold; (try dsimp only)) | ((fail_if_success (with_reducible show wpAny _ _ (call (Value.ref 133) _) _ _ _)); (fail_if_success (with_reducible show wpAny _ _ (call (Value.ref 140) _) _ _ _)); (fail_if_success (with_reducible show wpAny _ _ (call (Value.ref 122) _) _ _ _)); (fail_if_success (with_reducible show wpAny _ _ (execs _ _) _ _ _)); (fail_if_success (with_reducible show wpAny _ _ (pyIter _) _ _ _)); (fail_if_success (with_reducible show wpAny _ _ (eval (PySem.Expr.ListComp _ _ _ _) _) _ _ _)); (fail_if_success (with_reducible show wpAny _ _ (subscriptTail _ (PySem.Expr.Slice _ _ _ _) _ _) _ _ _)); (fail_if_success (with_reducible show wpAny _ _ (call (Value.ref 166) _) _ _ _)); (fail_if_success (with_reducible show wpAny _ _ (call (Value.ref 173) _) _ _ _)); (fail_if_success (with_reducible show wpAny _ _ (call (Value.ref 180) _) _ _ _)); (fail_if_success (with_reducible show wpAny _ _ (call (Value.ref 145) _) _ _ _)); (fail_if_success (with_reducible show LCt.CompSrcT _ _ _ _ _ _ _ _ _ _ _ _ _ _ _)); (fail_if_success (with_reducible show LCg.CompSrc _ _ _ _ _ _ _ _ _ _ _ _ _ _)); (fail_if_success (with_reducible show LCg.CompEnd _ _ _ _ _ _ _ _ _ _ _ _ _ _)); (fail_if_success (with_reducible show RL.CellSrc _ _ _ _ _ _ _ _ _ _ _ _ _ _)); (fail_if_success (with_reducible show wpAny _ _ (compareOp _ (Value.ref _) (Value.ref _)) _ _ _)); first | walk1 | (dsimp only; walk1)))
    refine ke_ne_ints (news_list N3 (List.mem_cons_of_mem _ List.mem_cons_self)) (news_list N3 List.mem_cons_self) hip hit (by ke_room) ?_
    rw [decide_eq_true rfl]
    repeat (first | (k_unfold; (try dsimp only)) | ((fail_if_success (with_reducible show wpAny _ _ (call (Value.ref 133) _) _ _ _)); (fail_if_success (with_reducible show wpAny _ _ (call (Value.ref 140) _) _ _ _)); (fail_if_success (with_reducible show wpAny _ _ (call (Value.ref 122) _) _ _ _)); (fail_if_success (with_reducible show wpAny _ _ (execs _ _) _ _ _)); (fail_if_success (with_reducible show wpAny _ _ (pyIter _) _ _ _)); (fail_if_success (with_reducible show wpAny _ _ (eval (PySem.Expr.ListComp _ _ _ _) _) _ _ _)); (fail_if_success (with_reducible show wpAny _ _ (subscriptTail _ (PySem.Expr.Slice _ _ _ _) _ _) _ _ _)); (fail_if_success (with_reducible show wpAny _ _ (call (Value.ref 166) _) _ _ _)); (fail_if_success (with_reducible show wpAny _ _ (call (Value.ref 173) _) _ _ _)); (fail_if_success (with_reducible show wpAny _ _ (call (Value.ref 180) _) _ _ _)); (fail_if_success (with_reducible show wpAny _ _ (call (Value.ref 145) _) _ _ _)); (fail_if_success (with_reducible show LCt.CompSrcT _ _ _ _ _ _ _ _ _ _ _ _ _ _ _)); (fail_if_success (with_reducible show LCg.CompSrc _ _ _ _ _ _ _ _ _ _ _ _ _ _)); (fail_if_success (with_reducible show LCg.CompEnd _ _ _ _ _ _ _ _ _ _ _ _ _ _)); (fail_if_success (with_reducible show RL.CellSrc _ _ _ _ _ _ _ _ _ _ _ _ _ _)); (fail_if_success (with_reducible show wpAny _ _ (compareOp _ (Value.ref _) (Value.ref _)) _ _ _)); first | walk1 | (dsimp only; walk1)))
    (try dsimp only)
    refine wpAny_execs_nil ?_
    exact h _ _ (by rw [← kst_back hm]; exact F3) (fun p hp => N3 p (List.mem_cons_of_mem _ hp))
end RL
end
section
open PySem PySem.W PyProof.Rows PySem.Calls
namespace RL
def nm (f : Fin 4 → Bool) : Int := (if f 0 then 8 else 0) + (if f 1 then 4 else 0) + (if f 2 then 2 else 0) + (if f 3 then 1 else 0)
def msk (r : Fin 4 → Fin 4 → Bool) : List Int := [nm (r 0), nm (r 1), nm (r 2), nm (r 3)]
def trn (r : Fin 4 → Fin 4 → Bool) : Fin 4 → Fin 4 → Bool := fun q p => r p q
abbrev leB (f g : Fin 4 → Bool) : Prop := ∀ i, f i = true → g i = true
def dn (r : Fin 4 → Fin 4 → Bool) (x : Fin 4 → Bool) : Fin 4 → Bool := fun p => decide (leB x (r p))
theorem all4 {P : Fin 4 → Prop} : (∀ i, P i) ↔ (P 0 ∧ P 1 ∧ P 2 ∧ P 3) :=
  ⟨fun h => ⟨h 0, h 1, h 2, h 3⟩, fun h i => match i with | 0 => h.1 | 1 => h.2.1 | 2 => h.2.2.1 | 3 => h.2.2.2⟩
theorem nm_bnd (f : Fin 4 → Bool) : 0 ≤ nm f ∧ nm f < 16 := by
  unfold nm
  generalize f 0 = a; generalize f 1 = b; generalize f 2 = c; generalize f 3 = d
  revert a b c d; decide
theorem nm_sur {a : Int} (h0 : 0 ≤ a) (h1 : a < 16) : ∃ f, a = nm f := by
  obtain ⟨i, rfl⟩ := fin16 h0 h1
  refine ⟨fun q => i.val.testBit (3 - q.val), ?_⟩
  revert i
  decide +kernel
theorem nm_inj {f g : Fin 4 → Bool} (h : nm f = nm g) : f = g := by
  have : ∀ a b c d a' b' c' d' : Bool, ((if a then 8 else 0) + (if b then 4 else 0) + (if c then 2 else 0) + (if d then 1 else 0) : Int) = (if a' then 8 else 0) + (if b' then 4 else 0) + (if c' then 2 else 0) + (if d' then 1 else 0) → a = a' ∧ b = b' ∧ c = c' ∧ d = d' := by decide
  have z := this _ _ _ _ _ _ _ _ h
  funext i
  exact (all4 (P := fun i => f i = g i)).mpr z i
theorem nm_sub (f g : Fin 4 → Bool) : (Builtin.bitAnd (nm f) (Builtin.bitNot (nm g)) == 0) = decide (leB f g) := by
  have e : leB f g ↔ ((f 0 = true → g 0 = true) ∧ (f 1 = true → g 1 = true) ∧ (f 2 = true → g 2 = true) ∧ (f 3 = true → g 3 = true)) := all4
  have key : ∀ a b c d a' b' c' d' : Bool, (Builtin.bitAnd ((if a then 8 else 0) + (if b then 4 else 0) + (if c then 2 else 0) + (if d then 1 else 0) : Int) (Builtin.bitNot ((if a' then 8 else 0) + (if b' then 4 else 0) + (if c' then 2 else 0) + (if d' then 1 else 0))) == 0) = true ↔ ((a = true → a' = true) ∧ (b = true → b' = true) ∧ (c = true → c' = true) ∧ (d = true → d' = true)) := by decide +kernel
  have k := key (f 0) (f 1) (f 2) (f 3) (g 0) (g 1) (g 2) (g 3)
  rw [Bool.eq_iff_iff, decide_eq_true_iff, e]
  exact k
theorem nm_and (f g : Fin 4 → Bool) : Builtin.bitAnd (nm f) (nm g) = nm (fun i => f i && g i) := by
  have key : ∀ a b c d a' b' c' d' : Bool, Builtin.bitAnd ((if a then 8 else 0) + (if b then 4 else 0) + (if c then 2 else 0) + (if d then 1 else 0) : Int) ((if a' then 8 else 0) + (if b' then 4 else 0) + (if c' then 2 else 0) + (if d' then 1 else 0)) = (if (a && a') then 8 else 0) + (if (b && b') then 4 else 0) + (if (c && c') then 2 else 0) + (if (d && d') then 1 else 0) := by decide +kernel
  exact key (f 0) (f 1) (f 2) (f 3) (g 0) (g 1) (g 2) (g 3)
theorem ks4 : rangeKs 0 4 = [0, 1, 2, 3] := by decide
theorem sh_nm (r : Fin 4 → Fin 4 → Bool) (x : Fin 4 → Bool) : shF (msk r) (nm x) = nm (dn r x) := by
  unfold shF
  rw [ks4]
  simp only [List.foldl_cons, List.foldl_nil, shG]
  have h0 : (msk r).getD (Int.toNat 0) 0 = nm (r 0) := rfl
  have h1 : (msk r).getD (Int.toNat 1) 0 = nm (r 1) := rfl
  have h2 : (msk r).getD (Int.toNat 2) 0 = nm (r 2) := rfl
  have h3 : (msk r).getD (Int.toNat 3) 0 = nm (r 3) := rfl
  rw [h0, h1, h2, h3]
  simp only [nm_sub]
  unfold nm dn
  generalize decide (leB x (r 0)) = a; generalize decide (leB x (r 1)) = b; generalize decide (leB x (r 2)) = c; generalize decide (leB x (r 3)) = d
  revert a b c d
  decide
theorem dn_iff {r : Fin 4 → Fin 4 → Bool} {x : Fin 4 → Bool} {p : Fin 4} : dn r x p = true ↔ leB x (r p) := by
  unfold dn; simp
theorem gal {r : Fin 4 → Fin 4 → Bool} {x y : Fin 4 → Bool} : leB y (dn r x) ↔ leB x (dn (trn r) y) := by
  constructor
  · intro h q hq
    rw [dn_iff]
    intro p hp
    exact dn_iff.mp (h p hp) q hq
  · intro h p hp
    rw [dn_iff]
    intro q hq
    exact dn_iff.mp (h q hq) p hp
theorem leB_refl (f : Fin 4 → Bool) : leB f f := fun _ h => h
theorem leB_trans {f g h : Fin 4 → Bool} (a : leB f g) (b : leB g h) : leB f h := fun i hi => b i (a i hi)
theorem leB_anti {f g : Fin 4 → Bool} (a : leB f g) (b : leB g f) : f = g := by
  funext i
  have h1 := a i
  have h2 := b i
  cases hf : f i <;> cases hg : g i <;> simp_all
theorem dn_anti {r : Fin 4 → Fin 4 → Bool} {x y : Fin 4 → Bool} (h : leB x y) : leB (dn r y) (dn r x) := by
  intro p hp
  rw [dn_iff] at hp ⊢
  exact leB_trans h hp
theorem trn_trn (r : Fin 4 → Fin 4 → Bool) : trn (trn r) = r := rfl
def clB (r : Fin 4 → Fin 4 → Bool) (x : Fin 4 → Bool) : Fin 4 → Bool := dn (trn r) (dn r x)
theorem cl_ext (r : Fin 4 → Fin 4 → Bool) (x : Fin 4 → Bool) : leB x (clB r x) := gal.mp (leB_refl _)
theorem cl_mono {r : Fin 4 → Fin 4 → Bool} {x y : Fin 4 → Bool} (h : leB x y) : leB (clB r x) (clB r y) := dn_anti (dn_anti h)
theorem dn3 (r : Fin 4 → Fin 4 → Bool) (x : Fin 4 → Bool) : dn r (clB r x) = dn r x :=
  leB_anti (dn_anti (cl_ext r x)) (cl_ext (trn r) (dn r x))
theorem cl_idem (r : Fin 4 → Fin 4 → Bool) (x : Fin 4 → Bool) : clB r (clB r x) = clB r x := congrArg (dn (trn r)) (dn3 r x)
theorem wh_nm (r : Fin 4 → Fin 4 → Bool) (x : Fin 4 → Bool) : whF (msk r) (msk (trn r)) (nm x) = nm (clB r x) := by
  unfold whF
  rw [sh_nm, sh_nm]; rfl
/-- What is used of the closure on numbers below 16. -/
structure Clo (c : Int → Int) : Prop where
  bnd : ∀ x, 0 ≤ x → x < 16 → 0 ≤ c x ∧ c x < 16
  ext : ∀ x, 0 ≤ x → x < 16 → Builtin.bitAnd x (Builtin.bitNot (c x)) = 0
  mono : ∀ x y, 0 ≤ x → x < 16 → 0 ≤ y → y < 16 → Builtin.bitAnd x (Builtin.bitNot y) = 0 → Builtin.bitAnd (c x) (Builtin.bitNot (c y)) = 0
  idem : ∀ x, 0 ≤ x → x < 16 → c (c x) = c x
theorem sub0 {f g : Fin 4 → Bool} : Builtin.bitAnd (nm f) (Builtin.bitNot (nm g)) = 0 ↔ leB f g := by
  have := nm_sub f g
  constructor
  · intro h
    rw [h] at this
    simpa using this.symm
  · intro h
    rw [decide_eq_true h] at this
    simpa using this
theorem clo_wh (r : Fin 4 → Fin 4 → Bool) : Clo (whF (msk r) (msk (trn r))) := by
  refine ⟨?_, ?_, ?_, ?_⟩
  · intro x h0 h1
    exact shF_bnd _ _
  · intro x h0 h1
    obtain ⟨f, rfl⟩ := nm_sur h0 h1
    rw [wh_nm, sub0]; exact cl_ext r f
  · intro x y h0 h1 h2 h3 h
    obtain ⟨f, rfl⟩ := nm_sur h0 h1
    obtain ⟨g, rfl⟩ := nm_sur h2 h3
    rw [wh_nm, wh_nm, sub0]
    exact cl_mono (sub0.mp h)
  · intro x h0 h1
    obtain ⟨f, rfl⟩ := nm_sur h0 h1
    rw [wh_nm, wh_nm, cl_idem]
theorem sub_le {a b : Int} (a0 : 0 ≤ a) (a1 : a < 16) (b0 : 0 ≤ b) (b1 : b < 16) (h : Builtin.bitAnd a (Builtin.bitNot b) = 0) : a ≤ b := by
  obtain ⟨i, rfl⟩ := fin16 a0 a1
  obtain ⟨j, rfl⟩ := fin16 b0 b1
  revert h
  revert i j
  decide +kernel
theorem sub15 {b : Int} (b0 : 0 ≤ b) (b1 : b < 16) (h : Builtin.bitAnd 15 (Builtin.bitNot b) = 0) : b = 15 := by
  have := sub_le (by decide) (by decide) b0 b1 h
  omega
theorem sub_zero {b : Int} (b0 : 0 ≤ b) (b1 : b < 16) : Builtin.bitAnd 0 (Builtin.bitNot b) = 0 := by
  obtain ⟨j, rfl⟩ := fin16 b0 b1
  revert j
  decide +kernel
theorem xor_iff {a b : Int} (a0 : 0 ≤ a) (a1 : a < 16) (b0 : 0 ≤ b) (b1 : b < 16) : (Builtin.bitXor a b < 2 ↔ a / 2 = b / 2) ∧ (Builtin.bitXor a b < 4 ↔ a / 4 = b / 4) ∧ (Builtin.bitXor a b < 8 ↔ a / 8 = b / 8) ∧ Builtin.bitXor a b < 16 := by
  obtain ⟨i, rfl⟩ := fin16 a0 a1
  obtain ⟨j, rfl⟩ := fin16 b0 b1
  revert i j
  decide +kernel
theorem top_bit {a b : Int} (a0 : 0 ≤ a) (a1 : a < 16) (b0 : 0 ≤ b) (b1 : b < 16) (h : a < b) :
    (a % 2 = 0 ∧ b / 2 = a / 2 ∧ Builtin.bitAnd (a / 2 * 2 + 1) (Builtin.bitNot b) = 0) ∨ (a / 2 % 2 = 0 ∧ b / 4 = a / 4 ∧ Builtin.bitAnd (a / 4 * 4 + 2) (Builtin.bitNot b) = 0) ∨
    (a / 4 % 2 = 0 ∧ b / 8 = a / 8 ∧ Builtin.bitAnd (a / 8 * 8 + 4) (Builtin.bitNot b) = 0) ∨ (a / 8 % 2 = 0 ∧ Builtin.bitAnd 8 (Builtin.bitNot b) = 0) := by
  obtain ⟨i, rfl⟩ := fin16 a0 a1
  obtain ⟨j, rfl⟩ := fin16 b0 b1
  revert h
  revert i j
  decide +kernel
theorem nx_conds {a : Int} (a0 : 0 ≤ a) (a1 : a < 16) : (Int.fmod (a * 2 ^ (4 + 4 : Int).toNat) 512 < 256 ↔ a % 2 = 0) ∧ (Int.fmod (a * 2 ^ (4 + 3 : Int).toNat) 512 < 256 ↔ a / 2 % 2 = 0) ∧ (Int.fmod (a * 2 ^ (4 + 2 : Int).toNat) 512 < 256 ↔ a / 4 % 2 = 0) ∧ (Int.fmod (a * 2 ^ (4 + 1 : Int).toNat) 512 < 256 ↔ a / 8 % 2 = 0) ∧
    a.fdiv (2 * 2 ^ (4 - 4 : Int).toNat) * (2 * 2 ^ (4 - 4 : Int).toNat) + 2 ^ (4 - 4 : Int).toNat = a / 2 * 2 + 1 ∧ a.fdiv (2 * 2 ^ (4 - 3 : Int).toNat) * (2 * 2 ^ (4 - 3 : Int).toNat) + 2 ^ (4 - 3 : Int).toNat = a / 4 * 4 + 2 ∧
    a.fdiv (2 * 2 ^ (4 - 2 : Int).toNat) * (2 * 2 ^ (4 - 2 : Int).toNat) + 2 ^ (4 - 2 : Int).toNat = a / 8 * 8 + 4 ∧ a.fdiv (2 * 2 ^ (4 - 1 : Int).toNat) * (2 * 2 ^ (4 - 1 : Int).toNat) + 2 ^ (4 - 1 : Int).toNat = 8 := by
  obtain ⟨i, rfl⟩ := fin16 a0 a1
  revert i
  decide +kernel
theorem ar_eq {d z old n w : Int} (hd : 0 < d) (hs : z / d = old / d) (l : z ≤ n) (u : n ≤ w) (e : w / d = old / d) : old / d = n / d :=
  Int.le_antisymm (hs ▸ Int.ediv_le_ediv hd l) (e ▸ Int.ediv_le_ediv hd u)
theorem ar_one {a : Int} (a0 : 0 ≤ a) (a1 : a < 16) : (0 ≤ a / 2 * 2 + 1 ∧ a / 2 * 2 + 1 < 16) ∧ (0 ≤ a / 4 * 4 + 2 ∧ a / 4 * 4 + 2 < 16) ∧ (0 ≤ a / 8 * 8 + 4 ∧ a / 8 * 8 + 4 < 16) ∧ (0 ≤ a / 16 * 16 + 8 ∧ a / 16 * 16 + 8 < 16) ∧ a / 16 * 16 + 8 = 8 ∧
    ((a / 2 * 2 + 1) / 2 = a / 2 ∧ (a / 4 * 4 + 2) / 4 = a / 4 ∧ (a / 8 * 8 + 4) / 8 = a / 8) ∧ (a % 2 = 0 → a < a / 2 * 2 + 1) ∧ (a / 2 % 2 = 0 → a < a / 4 * 4 + 2) ∧ (a / 4 % 2 = 0 → a < a / 8 * 8 + 4) ∧ (a / 8 % 2 = 0 → a < a / 16 * 16 + 8) := by
  obtain ⟨i, rfl⟩ := fin16 a0 a1
  revert i
  decide +kernel
theorem ar_two {a n : Int} (a0 : 0 ≤ a) (a1 : a < 16) (n0 : 0 ≤ n) (n1 : n < 16) :
    (a / 2 = n / 2 → (a / 2 % 2 = 0 → n ≤ a / 4 * 4 + 2) ∧ (a / 4 % 2 = 0 → n ≤ a / 8 * 8 + 4) ∧ (a / 8 % 2 = 0 → n ≤ a / 16 * 16 + 8)) ∧ (a / 4 = n / 4 → (a / 4 % 2 = 0 → n ≤ a / 8 * 8 + 4) ∧ (a / 8 % 2 = 0 → n ≤ a / 16 * 16 + 8)) ∧ (a / 8 = n / 8 → a / 8 % 2 = 0 → n ≤ a / 16 * 16 + 8) := by
  obtain ⟨i, rfl⟩ := fin16 a0 a1
  obtain ⟨j, rfl⟩ := fin16 n0 n1
  revert i j
  decide +kernel
theorem ar_m (x : Int) : (x * 128 < 256 ↔ x < 2) ∧ (x * 64 < 256 ↔ x < 4) ∧ (x * 32 < 256 ↔ x < 8) ∧ (x * 16 < 256 ↔ x < 16) := by omega
theorem nx_spec {ms ts : List Int} (C : Clo (whF ms ts)) {old : Int} (h0 : 0 ≤ old) (h15 : old < 15) :
    old < nxF ms ts old ∧ nxF ms ts old < 16 ∧ whF ms ts (nxF ms ts old) = nxF ms ts old ∧ ∀ w, 0 ≤ w → w < 16 → whF ms ts w = w → old < w → nxF ms ts old ≤ w := by
  have h1 : old < 16 := by omega
  obtain ⟨q4, q3, q2, q1, t4, t3, t2, t1⟩ := nx_conds h0 h1
  obtain ⟨s4, s3, s2, s1, s8, ⟨d2, d4, d8⟩, lt1, lt2, lt4, lt8⟩ := ar_one h0 h1
  rw [← s8] at t1
  generalize hc : whF ms ts = c at *
  have e4 : nxT ms ts old 4 = c (old / 2 * 2 + 1) := by unfold nxT; rw [hc, t4]
  have e3 : nxT ms ts old 3 = c (old / 4 * 4 + 2) := by unfold nxT; rw [hc, t3]
  have e2 : nxT ms ts old 2 = c (old / 8 * 8 + 4) := by unfold nxT; rw [hc, t2]
  have e1 : nxT ms ts old 1 = c (old / 16 * 16 + 8) := by unfold nxT; rw [hc, t1]
  have b4 := C.bnd _ s4.1 s4.2
  have b3 := C.bnd _ s3.1 s3.2
  have b2 := C.bnd _ s2.1 s2.2
  have b1 := C.bnd _ s1.1 s1.2
  have l4 := sub_le s4.1 s4.2 b4.1 b4.2 (C.ext _ s4.1 s4.2)
  have l3 := sub_le s3.1 s3.2 b3.1 b3.2 (C.ext _ s3.1 s3.2)
  have l2 := sub_le s2.1 s2.2 b2.1 b2.2 (C.ext _ s2.1 s2.2)
  have l1 := sub_le s1.1 s1.2 b1.1 b1.2 (C.ext _ s1.1 s1.2)
  have x4 := (xor_iff h0 h1 b4.1 b4.2).1
  have x3 := (xor_iff h0 h1 b3.1 b3.2).2.1
  have x2 := (xor_iff h0 h1 b2.1 b2.2).2.2.1
  have x1 := (xor_iff h0 h1 b1.1 b1.2).2.2.2
  have i4 := C.idem _ s4.1 s4.2
  have i3 := C.idem _ s3.1 s3.2
  have i2 := C.idem _ s2.1 s2.2
  have i1 := C.idem _ s1.1 s1.2
  have up : ∀ w, 0 ≤ w → w < 16 → c w = w → old < w → ((old % 2 = 0 ∧ old / 2 = c (old / 2 * 2 + 1) / 2) ∧ c (old / 2 * 2 + 1) ≤ w) ∨ ((old / 2 % 2 = 0 ∧ old / 4 = c (old / 4 * 4 + 2) / 4) ∧ c (old / 4 * 4 + 2) ≤ w) ∨ ((old / 4 % 2 = 0 ∧ old / 8 = c (old / 8 * 8 + 4) / 8) ∧ c (old / 8 * 8 + 4) ≤ w) ∨ ((old / 8 % 2 = 0) ∧ c (old / 16 * 16 + 8) ≤ w) := by
    intro w w0 w1 hw hlt
    rcases top_bit h0 h1 w0 w1 hlt with ⟨a1, a2, a3⟩ | ⟨a1, a2, a3⟩ | ⟨a1, a2, a3⟩ | ⟨a1, a3⟩
    · have m := C.mono _ _ s4.1 s4.2 w0 w1 a3
      rw [hw] at m
      have u := sub_le b4.1 b4.2 w0 w1 m
      exact .inl ⟨⟨a1, ar_eq (by decide) d2 l4 u a2⟩, u⟩
    · have m := C.mono _ _ s3.1 s3.2 w0 w1 a3
      rw [hw] at m
      have u := sub_le b3.1 b3.2 w0 w1 m
      exact .inr (.inl ⟨⟨a1, ar_eq (by decide) d4 l3 u a2⟩, u⟩)
    · have m := C.mono _ _ s2.1 s2.2 w0 w1 a3
      rw [hw] at m
      have u := sub_le b2.1 b2.2 w0 w1 m
      exact .inr (.inr (.inl ⟨⟨a1, ar_eq (by decide) d8 l2 u a2⟩, u⟩))
    · rw [← s8] at a3
      have m := C.mono _ _ s1.1 s1.2 w0 w1 a3
      rw [hw] at m
      exact .inr (.inr (.inr ⟨a1, sub_le b1.1 b1.2 w0 w1 m⟩))
  have c15 : c 15 = 15 := by
    have b := C.bnd 15 (by decide) (by decide)
    exact sub15 b.1 b.2 (C.ext 15 (by decide) (by decide))
  have up15 := up 15 (by decide) (by decide) c15 h15
  have p4 : (2 : Int) ^ (3 + 4 : Int).toNat = 128 := by decide
  have p3 : (2 : Int) ^ (3 + 3 : Int).toNat = 64 := by decide
  have p2 : (2 : Int) ^ (3 + 2 : Int).toNat = 32 := by decide
  have p1 : (2 : Int) ^ (3 + 1 : Int).toNat = 16 := by decide
  have r1 : Builtin.bitXor old (c (old / 16 * 16 + 8)) < 16 ↔ True := iff_true_intro x1
  unfold nxF
  simp only [nxGo, e1, e2, e3, e4, p1, p2, p3, p4, q1, q2, q3, q4, (ar_m _).1, (ar_m _).2.1, (ar_m _).2.2.1, (ar_m _).2.2.2, x4, x3, x2, r1, and_true]
  split
  · rename_i hh
    refine ⟨Int.lt_of_lt_of_le (lt1 hh.1) l4, b4.2, i4, ?_⟩
    intro w w0 w1 hw hlt
    rcases up w w0 w1 hw hlt with ⟨a, u⟩ | ⟨a, u⟩ | ⟨a, u⟩ | ⟨a, u⟩
    · exact u
    · exact Int.le_trans (((ar_two h0 h1 b4.1 b4.2).1 hh.2).1 a.1) (Int.le_trans l3 u)
    · exact Int.le_trans (((ar_two h0 h1 b4.1 b4.2).1 hh.2).2.1 a.1) (Int.le_trans l2 u)
    · exact Int.le_trans (((ar_two h0 h1 b4.1 b4.2).1 hh.2).2.2 a) (Int.le_trans l1 u)
  rename_i g4
  split
  · rename_i hh
    refine ⟨Int.lt_of_lt_of_le (lt2 hh.1) l3, b3.2, i3, ?_⟩
    intro w w0 w1 hw hlt
    rcases up w w0 w1 hw hlt with ⟨a, u⟩ | ⟨a, u⟩ | ⟨a, u⟩ | ⟨a, u⟩
    · exact absurd a g4
    · exact u
    · exact Int.le_trans (((ar_two h0 h1 b3.1 b3.2).2.1 hh.2).1 a.1) (Int.le_trans l2 u)
    · exact Int.le_trans (((ar_two h0 h1 b3.1 b3.2).2.1 hh.2).2 a) (Int.le_trans l1 u)
  rename_i g3
  split
  · rename_i hh
    refine ⟨Int.lt_of_lt_of_le (lt4 hh.1) l2, b2.2, i2, ?_⟩
    intro w w0 w1 hw hlt
    rcases up w w0 w1 hw hlt with ⟨a, u⟩ | ⟨a, u⟩ | ⟨a, u⟩ | ⟨a, u⟩
    · exact absurd a g4
    · exact absurd a g3
    · exact u
    · exact Int.le_trans ((ar_two h0 h1 b2.1 b2.2).2.2 hh.2 a) (Int.le_trans l1 u)
  rename_i g2
  split
  · rename_i hh
    refine ⟨Int.lt_of_lt_of_le (lt8 hh) l1, b1.2, i1, ?_⟩
    intro w w0 w1 hw hlt
    rcases up w w0 w1 hw hlt with ⟨a, u⟩ | ⟨a, u⟩ | ⟨a, u⟩ | ⟨a, u⟩
    · exact absurd a g4
    · exact absurd a g3
    · exact absurd a g2
    · exact u
  rename_i g1
  rcases up15 with ⟨a, u⟩ | ⟨a, u⟩ | ⟨a, u⟩ | ⟨a, u⟩
  · exact absurd a g4
  · exact absurd a g3
  · exact absurd a g2
  · exact absurd a g1
end RL
end
section
open PySem PySem.W PyProof.Rows PySem.Calls
namespace RL
theorem msk_of {ns : List Int} (hn : ns.length = 4) (hb : ∀ v ∈ ns, 0 ≤ v ∧ v < 16) : ∃ r, ns = msk r := by
  match ns, hn with
  | [a, b, c, d], _ =>
    obtain ⟨f0, h0⟩ := nm_sur (hb a (by simp)).1 (hb a (by simp)).2
    obtain ⟨f1, h1⟩ := nm_sur (hb b (by simp)).1 (hb b (by simp)).2
    obtain ⟨f2, h2⟩ := nm_sur (hb c (by simp)).1 (hb c (by simp)).2
    obtain ⟨f3, h3⟩ := nm_sur (hb d (by simp)).1 (hb d (by simp)).2
    refine ⟨fun p => match p with | 0 => f0 | 1 => f1 | 2 => f2 | 3 => f3, ?_⟩
    rw [h0, h1, h2, h3]
    rfl
theorem nm_bit (f : Fin 4 → Bool) : (((nm f).fdiv (2 ^ (3 - 0 : Int).toNat)).fmod 2 = 1 ↔ f 0 = true) ∧ (((nm f).fdiv (2 ^ (3 - 1 : Int).toNat)).fmod 2 = 1 ↔ f 1 = true) ∧ (((nm f).fdiv (2 ^ (3 - 2 : Int).toNat)).fmod 2 = 1 ↔ f 2 = true) ∧ (((nm f).fdiv (2 ^ (3 - 3 : Int).toNat)).fmod 2 = 1 ↔ f 3 = true) := by
  unfold nm
  generalize f 0 = a; generalize f 1 = b; generalize f 2 = c; generalize f 3 = d
  revert a b c d
  decide +kernel
theorem tu_msk (r : Fin 4 → Fin 4 → Bool) : tuF (msk r) = msk (trn r) := by
  have h0 : (msk r).getD (Int.toNat 0) 0 = nm (r 0) := rfl
  have h1 : (msk r).getD (Int.toNat 1) 0 = nm (r 1) := rfl
  have h2 : (msk r).getD (Int.toNat 2) 0 = nm (r 2) := rfl
  have h3 : (msk r).getD (Int.toNat 3) 0 = nm (r 3) := rfl
  have g0 : (2 : Int) ^ (3 - 0 : Int).toNat = 8 := by decide
  have g1 : (2 : Int) ^ (3 - 1 : Int).toNat = 4 := by decide
  have g2 : (2 : Int) ^ (3 - 2 : Int).toNat = 2 := by decide
  have g3 : (2 : Int) ^ (3 - 3 : Int).toNat = 1 := by decide
  have e : ∀ q : Fin 4, tuE (msk r) (q.val : Int) = nm (trn r q) := by
    intro q
    unfold tuE
    rw [ks4]
    simp only [List.foldl_cons, List.foldl_nil, tuG, h0, h1, h2, h3, if_app, g0, g1, g2, g3]
    have b0 := nm_bit (r 0)
    have b1 := nm_bit (r 1)
    have b2 := nm_bit (r 2)
    have b3 := nm_bit (r 3)
    have key : ∀ p : Fin 4, (((nm (r p)).fdiv (2 ^ (3 - (q.val : Int)).toNat)).fmod 2 = 1 ↔ r p q = true) := by
      intro p
      have b := nm_bit (r p)
      match q with
      | 0 => exact b.1
      | 1 => exact b.2.1
      | 2 => exact b.2.2.1
      | 3 => exact b.2.2.2
    simp only [key]
    exact sum4 _ _ _ _
  have e0 : tuE (msk r) 0 = nm (trn r 0) := e 0
  have e1 : tuE (msk r) 1 = nm (trn r 1) := e 1
  have e2 : tuE (msk r) 2 = nm (trn r 2) := e 2
  have e3 : tuE (msk r) 3 = nm (trn r 3) := e 3
  unfold tuF
  rw [ks4]
  simp only [List.map_cons, List.map_nil, e0, e1, e2, e3]
  rfl
def Closed (c : Int → Int) (w : Int) : Prop := 0 ≤ w ∧ w < 16 ∧ c w = w
theorem td_go {ms ts : List Int} (C : Clo (whF ms ts)) : ∀ (n : Nat) (l : List Int), n + l.length = 16 → l ≠ [] → l.Pairwise (· < ·) → (∀ w ∈ l, Closed (whF ms ts) w ∧ w ≤ l.getLastD 0) → (∀ w, Closed (whF ms ts) w → w ≤ l.getLastD 0 → w ∈ l) → (l.length : Int) ≤ l.getLastD 0 + 1 →
    (tdGo ms ts n l).Pairwise (· < ·) ∧ (∀ w, w ∈ tdGo ms ts n l ↔ Closed (whF ms ts) w) ∧ (tdGo ms ts n l).length ≤ 16
  | 0, l, hn, hne, hs, hc, hall, hlen => by
    have hl := (hc _ (last_mem hne)).1
    obtain ⟨_, h2, _⟩ := hl
    rw [tdGo]
    refine ⟨hs, fun w => ⟨fun hw => (hc w hw).1, fun hw => hall w hw ?_⟩, by omega⟩
    have := hw.2.1
    omega
  | n + 1, l, hn, hne, hs, hc, hall, hlen => by
    have hl := (hc _ (last_mem hne)).1
    rw [tdGo]
    split
    · rename_i hh
      obtain ⟨z1, z2, z3, z4⟩ := nx_spec C hl.1 (by omega : l.getLastD 0 < 15)
      have hlast : (l ++ [nxF ms ts (l.getLastD 0)]).getLastD 0 = nxF ms ts (l.getLastD 0) := by simp
      have hl1 := hl.1
      refine td_go C n _ (by simp; omega) (by simp) ?_ ?_ ?_ ?_
      · rw [List.pairwise_append]
        refine ⟨hs, List.pairwise_singleton _ _, fun a ha b hb => ?_⟩
        rw [List.mem_singleton.mp hb]
        have := (hc a ha).2
        omega
      · intro w hw
        rw [hlast]
        rcases List.mem_append.mp hw with hw | hw
        · have := hc w hw
          exact ⟨this.1, by have := this.2; omega⟩
        · rw [List.mem_singleton.mp hw]
          exact ⟨⟨by omega, z2, z3⟩, Int.le_refl _⟩
      · intro w hw hle
        rw [hlast] at hle
        rcases Int.lt_or_le (l.getLastD 0) w with q | q
        · have := z4 w hw.1 hw.2.1 hw.2.2 q
          have : w = nxF ms ts (l.getLastD 0) := by omega
          rw [this]; exact List.mem_append_right _ (List.mem_singleton.mpr rfl)
        · exact List.mem_append_left _ (hall w hw q)
      · rw [hlast, List.length_append, List.length_singleton]; omega
    · rename_i hh
      have h2 := hl.2.1
      have h15 : l.getLastD 0 = 15 := by
        have : ¬ (241 + l.getLastD 0 < 256) := fun h => hh ⟨h, by omega⟩
        omega
      refine ⟨hs, fun w => ⟨fun hw => (hc w hw).1, fun hw => hall w hw ?_⟩, by omega⟩
      have := hw.2.1
      omega
theorem td_spec {ms ts : List Int} (C : Clo (whF ms ts)) : (tdF ms ts).Pairwise (· < ·) ∧ (∀ w, w ∈ tdF ms ts ↔ Closed (whF ms ts) w) ∧ (tdF ms ts).length ≤ 16 := by
  have b0 := C.bnd 0 (by decide) (by decide)
  have i0 := C.idem 0 (by decide) (by decide)
  unfold tdF
  refine td_go C 15 _ rfl (by simp) (List.pairwise_singleton _ _) ?_ ?_ ?_
  · intro w hw
    rw [List.mem_singleton.mp hw]
    exact ⟨⟨b0.1, b0.2, i0⟩, by simp⟩
  · intro w hw hle
    have h1 := C.mono 0 w (by decide) (by decide) hw.1 hw.2.1 (sub_zero hw.1 hw.2.1)
    rw [hw.2.2] at h1
    have h2 := sub_le b0.1 b0.2 hw.1 hw.2.1 h1
    have h3 : w ≤ whF ms ts 0 := by simpa using hle
    rw [List.mem_singleton]
    omega
  · have := b0.1
    simp; omega
theorem sorted_ext : ∀ {l r : List Int}, l.Pairwise (· < ·) → r.Pairwise (· < ·) → (∀ x, x ∈ l ↔ x ∈ r) → l = r
  | [], [], _, _, _ => rfl
  | [], y :: r, _, _, h => absurd ((h y).mpr List.mem_cons_self) (by simp)
  | x :: l, [], _, _, h => absurd ((h x).mp List.mem_cons_self) (by simp)
  | x :: l, y :: r, hl, hr, h => by
    obtain ⟨l1, l2⟩ := List.pairwise_cons.mp hl
    obtain ⟨r1, r2⟩ := List.pairwise_cons.mp hr
    have e : x = y := by
      rcases List.mem_cons.mp ((h x).mp List.mem_cons_self) with q | q
      · exact q
      · rcases List.mem_cons.mp ((h y).mpr List.mem_cons_self) with p | p
        · exact p.symm
        · have := r1 x q
          have := l1 y p
          omega
    subst e
    congr 1
    refine sorted_ext l2 r2 fun z => ⟨fun hz => ?_, fun hz => ?_⟩
    · rcases List.mem_cons.mp ((h z).mp (List.mem_cons_of_mem _ hz)) with q | q
      · have := l1 z hz
        omega
      · exact q
    · rcases List.mem_cons.mp ((h z).mpr (List.mem_cons_of_mem _ hz)) with q | q
      · have := r1 z hz
        omega
      · exact q
theorem perm_ext {r p l : List Int} (hp : r.Perm p) (hs : r.Pairwise (· ≤ ·)) (hd : p.Nodup) (hl : l.Pairwise (· < ·)) (h : ∀ x, x ∈ p ↔ x ∈ l) : r = l := by
  have hr : r.Nodup := hp.nodup_iff.mpr hd
  refine sorted_ext ?_ hl fun x => hp.mem_iff.trans (h x)
  refine (hs.and hr).imp fun {a b} hab => ?_
  have := hab.1
  have := hab.2
  omega
theorem lt_nodup {l : List Int} (h : l.Pairwise (· < ·)) : l.Nodup := h.imp fun {a b} hab => by omega
theorem ch_mem (ms : List Int) : ∀ (ks l : List Int) (z : Int), z ∈ ks.foldl (chG ms) l ↔ z ∈ l ∨ ∃ c ∈ ks, z = cmF ms c
  | [], l, z => by simp
  | k :: ks, l, z => by
    rw [List.foldl_cons, ch_mem ms ks]
    have e : z ∈ chG ms l k ↔ z ∈ l ∨ z = cmF ms k := by
      unfold chG
      split
      · rename_i h
        constructor
        · exact .inl
        · rintro (q | rfl)
          · exact q
          · exact h
      · simp
    rw [e]
    constructor
    · rintro ((q | q) | ⟨c, hc, q⟩)
      · exact .inl q
      · exact .inr ⟨k, List.mem_cons_self, q⟩
      · exact .inr ⟨c, List.mem_cons_of_mem _ hc, q⟩
    · rintro (q | ⟨c, hc, q⟩)
      · exact .inl (.inl q)
      · rcases List.mem_cons.mp hc with rfl | hc
        · exact .inl (.inr q)
        · exact .inr ⟨c, hc, q⟩
theorem ch_nodup (ms : List Int) : ∀ (ks l : List Int), l.Nodup → (ks.foldl (chG ms) l).Nodup
  | [], l, h => h
  | k :: ks, l, h => by
    rw [List.foldl_cons]
    refine ch_nodup ms ks _ ?_
    unfold chG
    split
    · exact h
    · rename_i hk
      rw [List.nodup_append]
      refine ⟨h, by simp, fun a ha b hb => ?_⟩
      rw [List.mem_singleton.mp hb]
      rintro rfl
      exact hk ha
def cbit (c : Int) (p : Fin 4) : Bool := decide ((c.fdiv (2 ^ ((p.val : Int)).toNat)).fmod 2 = 1)
theorem nm_top : (15 : Int) = nm (fun _ => true) := by decide
theorem cm_step (c : Int) (p : Fin 4) (f g : Fin 4 → Bool) : (if (c.fdiv (2 ^ ((p.val : Int)).toNat)).fmod 2 = 1 then Builtin.bitAnd (nm f) (nm g) else nm f) = nm (fun i => f i && (!cbit c p || g i)) := by
  unfold cbit
  split
  · rename_i h
    rw [nm_and, decide_eq_true h]
    simp
  · rename_i h
    rw [decide_eq_false h]
    simp
theorem cm_bool : ∀ b0 b1 b2 b3 g0 g1 g2 g3 : Bool, (((((true && (!b0 || g0)) && (!b1 || g1)) && (!b2 || g2)) && (!b3 || g3)) = true ↔ ((b0 = true → g0 = true) ∧ (b1 = true → g1 = true) ∧ (b2 = true → g2 = true) ∧ (b3 = true → g3 = true))) := by decide +kernel
theorem cm_nm (r : Fin 4 → Fin 4 → Bool) (c : Int) : cmF (msk r) c = nm (dn (trn r) (cbit c)) := by
  have h0 : (msk r).getD (Int.toNat 0) 0 = nm (r 0) := rfl
  have h1 : (msk r).getD (Int.toNat 1) 0 = nm (r 1) := rfl
  have h2 : (msk r).getD (Int.toNat 2) 0 = nm (r 2) := rfl
  have h3 : (msk r).getD (Int.toNat 3) 0 = nm (r 3) := rfl
  unfold cmF
  rw [ks4]
  simp only [List.foldl_cons, List.foldl_nil, cmG, h0, h1, h2, h3]
  have s0 := cm_step c 0
  have s1 := cm_step c 1
  have s2 := cm_step c 2
  have s3 := cm_step c 3
  have v0 : ((0 : Fin 4).val : Int) = 0 := rfl
  have v1 : ((1 : Fin 4).val : Int) = 1 := rfl
  have v2 : ((2 : Fin 4).val : Int) = 2 := rfl
  have v3 : ((3 : Fin 4).val : Int) = 3 := rfl
  rw [v0] at s0
  rw [v1] at s1
  rw [v2] at s2
  rw [v3] at s3
  rw [nm_top, s0, s1, s2, s3]
  congr 1
  funext q
  rw [Bool.eq_iff_iff, dn_iff]
  have e : leB (cbit c) (trn r q) ↔ (cbit c 0 = true → r 0 q = true) ∧ (cbit c 1 = true → r 1 q = true) ∧ (cbit c 2 = true → r 2 q = true) ∧ (cbit c 3 = true → r 3 q = true) := all4
  rw [e]
  exact cm_bool _ _ _ _ _ _ _ _
theorem cbit_sur (y : Fin 4 → Bool) : ∃ c ∈ rangeKs 0 16, cbit c = y := by
  have key : ∀ a b c d : Bool, ∃ k ∈ rangeKs 0 16, cbit k 0 = a ∧ cbit k 1 = b ∧ cbit k 2 = c ∧ cbit k 3 = d := by
    unfold cbit
    decide +kernel
  obtain ⟨k, hk, h⟩ := key (y 0) (y 1) (y 2) (y 3)
  exact ⟨k, hk, funext ((all4 (P := fun i => cbit k i = y i)).mpr h)⟩
theorem closed_iff (r : Fin 4 → Fin 4 → Bool) (w : Int) : Closed (whF (msk r) (msk (trn r))) w ↔ ∃ y, w = nm (dn (trn r) y) := by
  constructor
  · rintro ⟨h0, h1, h2⟩
    obtain ⟨f, rfl⟩ := nm_sur h0 h1
    rw [wh_nm] at h2
    exact ⟨dn r f, h2.symm⟩
  · rintro ⟨y, rfl⟩
    have b := nm_bnd (dn (trn r) y)
    refine ⟨b.1, b.2, ?_⟩
    rw [wh_nm]
    exact congrArg nm (dn3 (trn r) y)
theorem law_choice (r : Fin 4 → Fin 4 → Bool) (q : List Int) (hp : q.Perm (chL (msk r))) (hs : q.Pairwise (· ≤ ·)) : q = tdF (msk r) (msk (trn r)) := by
  obtain ⟨t1, t2, t3⟩ := td_spec (clo_wh r)
  refine perm_ext hp hs (ch_nodup _ _ _ List.nodup_nil) t1 fun x => ?_
  rw [t2, closed_iff, chL, ch_mem]
  constructor
  · rintro (h | ⟨c, _, h⟩)
    · cases h
    · exact ⟨cbit c, by rw [h, cm_nm]⟩
  · rintro ⟨y, h⟩
    obtain ⟨c, hc, e⟩ := cbit_sur y
    exact .inr ⟨c, hc, by rw [h, cm_nm, e]⟩
theorem srt_le {l : List Int} (hs : l.Pairwise (· < ·)) {i j : Nat} (h : i ≤ j) (hj : j < l.length) : l.getD i 0 ≤ l.getD j 0 := by
  rcases Nat.eq_or_lt_of_le h with rfl | h
  · exact Int.le_refl _
  · have := List.pairwise_iff_getElem.mp hs i j (by omega) hj h
    rw [List.getD_eq_getElem?_getD, List.getD_eq_getElem?_getD, List.getElem?_eq_getElem hj, List.getElem?_eq_getElem (by omega : i < l.length)]
    exact Int.le_of_lt this
theorem bs_spec {l : List Int} (x : Int) (hs : l.Pairwise (· < ·)) : ∀ (f : Nat) (lo hi : Int), 0 ≤ lo → lo ≤ hi → hi ≤ l.length → hi - lo ≤ f → (∀ i : Nat, (i : Int) < lo → l.getD i 0 < x) → (∀ i : Nat, hi ≤ (i : Int) → i < l.length → x ≤ l.getD i 0) →
    (∀ i : Nat, (i : Int) < bsGo l x f lo hi → l.getD i 0 < x) ∧ (∀ i : Nat, bsGo l x f lo hi ≤ (i : Int) → i < l.length → x ≤ l.getD i 0)
  | 0, lo, hi, h0, h1, h2, h3, ha, hb => by
    rw [bsGo]
    exact ⟨ha, fun i hi' => hb i (by omega)⟩
  | f + 1, lo, hi, h0, h1, h2, h3, ha, hb => by
    rw [bsGo]
    split
    · rename_i hlt
      obtain ⟨m0, m1, m2⟩ := mid_bnd h0 hlt
      generalize (lo + hi).fdiv 2 = mid at *
      have hml : mid.toNat < l.length := by omega
      split
      · rename_i hx
        refine bs_spec x hs f (mid + 1) hi (by omega) (by omega) h2 (by omega) (fun i hi' => ?_) hb
        have := srt_le hs (i := i) (j := mid.toNat) (by omega) hml
        omega
      · rename_i hx
        refine bs_spec x hs f lo mid h0 m2 (by omega) (by omega) ha (fun i hi' hil => ?_)
        have := srt_le hs (i := mid.toNat) (j := i) (by omega) hil
        omega
    · exact ⟨ha, fun i hi' => hb i (by omega)⟩
theorem mem_getD {l : List Int} {a : Int} (h : a ∈ l) : ∃ i, i < l.length ∧ l.getD i 0 = a := by
  obtain ⟨i, hi, e⟩ := List.getElem_of_mem h
  exact ⟨i, hi, by rw [List.getD_eq_getElem?_getD, List.getElem?_eq_getElem hi, e]; rfl⟩
theorem getD_mem {l : List Int} {i : Nat} (h : i < l.length) : l.getD i 0 ∈ l := by
  rw [List.getD_eq_getElem?_getD, List.getElem?_eq_getElem h]
  exact List.getElem_mem h
theorem hvI_spec {l : List Int} (hs : l.Pairwise (· < ·)) (m o : Int) : (hvI m l o).Pairwise (· < ·) ∧ ∀ z, z ∈ hvI m l o ↔ z ∈ l ∨ z = Builtin.bitAnd m o := by
  unfold hvI
  generalize Builtin.bitAnd m o = x
  have hb := bsF_bnd l x
  obtain ⟨k1, k2⟩ := bs_spec x hs l.length 0 l.length (by omega) (by omega) (by omega) (by omega) (fun i hi => by omega) (fun i hi hl => by omega)
  rw [show bsGo l x l.length 0 l.length = bsF l x from rfl] at k1 k2
  split
  · rename_i hc
    unfold isF
    generalize hk : (bsF l x).toNat = k at *
    have hne : PUnit.{1} → k < l.length → l.getD k 0 ≠ x := fun _ hlt => by
      rcases hc with hc | hc
      · omega
      · exact hc
    clear hc
    have hkl : k ≤ l.length := by omega
    have t1 : ∀ a ∈ l.take k, a < x := by
      intro a ha
      obtain ⟨i, hi, e⟩ := mem_getD ha
      rw [List.length_take] at hi
      have : l.getD i 0 = a := by
        rw [← e, List.getD_eq_getElem?_getD, List.getD_eq_getElem?_getD, List.getElem?_take, if_pos (by omega)]
      rw [← this]
      exact k1 i (by omega)
    have t2 : ∀ a ∈ l.drop k, x < a := by
      intro a ha
      obtain ⟨i, hi, e⟩ := mem_getD ha
      rw [List.length_drop] at hi
      have e2 : l.getD (k + i) 0 = a := by
        rw [← e, List.getD_eq_getElem?_getD, List.getD_eq_getElem?_getD, List.getElem?_drop]
      have h1 := k2 k (by omega) (by omega)
      have h2 := srt_le hs (i := k) (j := k + i) (by omega) (by omega)
      have h3 := hne ⟨⟩ (by omega)
      omega
    refine ⟨?_, fun z => ?_⟩
    · rw [List.pairwise_append]
      refine ⟨hs.sublist (List.take_sublist k l), ?_, ?_⟩
      · rw [List.pairwise_cons]
        exact ⟨t2, hs.sublist (List.drop_sublist k l)⟩
      · intro a ha b hb'
        rcases List.mem_cons.mp hb' with rfl | hb'
        · exact t1 a ha
        · have := t1 a ha
          have := t2 b hb'
          omega
    · have e : z ∈ l ↔ z ∈ l.take k ∨ z ∈ l.drop k := by
        rw [← List.mem_append, List.take_append_drop]
      rw [e, List.mem_append, List.mem_cons]
      constructor
      · rintro (h | h | h)
        · exact .inl (.inl h)
        · exact .inr h
        · exact .inl (.inr h)
      · rintro ((h | h) | h)
        · exact .inl h
        · exact .inr (.inr h)
        · exact .inr (.inl h)
  · rename_i hc
    have hx : x ∈ l := by
      have h1 : bsF l x ≠ l.length := fun e => hc (.inl e)
      have h2 : l.getD (bsF l x).toNat 0 = x := Classical.byContradiction fun e => hc (.inr e)
      rw [← h2]
      exact getD_mem (by omega)
    refine ⟨hs, fun z => ⟨.inl, ?_⟩⟩
    rintro (h | rfl)
    · exact h
    · exact hx
theorem hv_fold (m : Int) : ∀ (ks l : List Int), l.Pairwise (· < ·) → (ks.foldl (hvI m) l).Pairwise (· < ·) ∧ ∀ z, z ∈ ks.foldl (hvI m) l ↔ z ∈ l ∨ ∃ o ∈ ks, z = Builtin.bitAnd m o
  | [], l, h => ⟨h, fun z => by simp⟩
  | k :: ks, l, h => by
    obtain ⟨h1, h2⟩ := hvI_spec h m k
    obtain ⟨h3, h4⟩ := hv_fold m ks _ h1
    refine ⟨h3, fun z => ?_⟩
    rw [List.foldl_cons, h4, h2]
    constructor
    · rintro ((q | q) | ⟨c, hc, q⟩)
      · exact .inl q
      · exact .inr ⟨k, List.mem_cons_self, q⟩
      · exact .inr ⟨c, List.mem_cons_of_mem _ hc, q⟩
    · rintro (q | ⟨c, hc, q⟩)
      · exact .inl (.inl q)
      · rcases List.mem_cons.mp hc with rfl | hc
        · exact .inl (.inr q)
        · exact .inr ⟨c, hc, q⟩
/-- The meets of some of the first j masks. -/
def Upto (r : Fin 4 → Fin 4 → Bool) (j : Nat) (z : Int) : Prop := ∃ y : Fin 4 → Bool, (∀ p : Fin 4, j ≤ p.val → y p = false) ∧ z = nm (dn (trn r) y)
theorem hv_step (r : Fin 4 → Fin 4 → Bool) {l : List Int} (hs : l.Pairwise (· < ·)) (j : Fin 4) (h : ∀ z, z ∈ l ↔ Upto r j.val z) : (hvG l (nm (r j))).Pairwise (· < ·) ∧ ∀ z, z ∈ hvG l (nm (r j)) ↔ Upto r (j.val + 1) z := by
  obtain ⟨h1, h2⟩ := hv_fold (nm (r j)) l l hs
  refine ⟨h1, fun z => ?_⟩
  unfold hvG
  rw [h2]
  have meet : ∀ y : Fin 4 → Bool, Builtin.bitAnd (nm (r j)) (nm (dn (trn r) y)) = nm (dn (trn r) fun p => if p = j then true else y p) := by
    intro y
    rw [nm_and]
    congr 1
    funext q
    rw [Bool.eq_iff_iff, Bool.and_eq_true, dn_iff, dn_iff]
    constructor
    · rintro ⟨a, b⟩ p hp
      by_cases e : p = j
      · rw [e]; exact a
      · dsimp only at hp
        rw [if_neg e] at hp
        exact b p hp
    · intro a
      refine ⟨a j (if_pos rfl), fun p hp => a p ?_⟩
      by_cases e : p = j
      · exact if_pos e
      · dsimp only; rw [if_neg e]; exact hp
  constructor
  · rintro (q | ⟨o, ho, q⟩)
    · obtain ⟨y, hy, e⟩ := (h z).mp q
      exact ⟨y, fun p hp => hy p (by omega), e⟩
    · obtain ⟨y, hy, e⟩ := (h o).mp ho
      refine ⟨fun p => if p = j then true else y p, fun p hp => ?_, by rw [q, e, meet]⟩
      have : p ≠ j := fun e => by rw [e] at hp; omega
      dsimp only
      rw [if_neg this]
      exact hy p (by omega)
  · rintro ⟨y, hy, e⟩
    cases hj : y j with
    | false =>
      refine .inl ((h z).mpr ⟨y, fun p hp => ?_, e⟩)
      rcases Nat.eq_or_lt_of_le hp with q | q
      · have : p = j := Fin.ext q.symm
        rw [this, hj]
      · exact hy p q
    | true =>
      refine .inr ⟨nm (dn (trn r) fun p => if p = j then false else y p), (h _).mpr ⟨_, fun p hp => ?_, rfl⟩, ?_⟩
      · by_cases q : p = j
        · exact if_pos q
        · rw [if_neg q]
          refine hy p ?_
          have : p.val ≠ j.val := fun e => q (Fin.ext e)
          omega
      · rw [meet, e]
        congr 2
        funext p
        by_cases q : p = j
        · rw [if_pos q, q, hj]
        · rw [if_neg q, if_neg q]
theorem law_halving (r : Fin 4 → Fin 4 → Bool) : hvF (msk r) = tdF (msk r) (msk (trn r)) := by
  obtain ⟨t1, t2, t3⟩ := td_spec (clo_wh r)
  have s0 : ∀ z, z ∈ [(15 : Int)] ↔ Upto r (0 : Fin 4).val z := by
    intro z
    rw [List.mem_singleton]
    have e0 : nm (dn (trn r) fun _ => false) = 15 := by
      rw [nm_top]
      exact congrArg nm (funext fun q => dn_iff.mpr fun p hp => nomatch hp)
    constructor
    · rintro rfl
      exact ⟨fun _ => false, fun _ _ => rfl, e0.symm⟩
    · rintro ⟨y, hy, rfl⟩
      rw [show y = fun _ => false from funext fun p => hy p (Nat.zero_le _), e0]
  obtain ⟨a1, a2⟩ := hv_step r (List.pairwise_singleton _ _) 0 s0
  obtain ⟨b1, b2⟩ := hv_step r a1 1 a2
  obtain ⟨c1, c2⟩ := hv_step r b1 2 b2
  obtain ⟨d1, d2⟩ := hv_step r c1 3 c2
  have e : hvF (msk r) = hvG (hvG (hvG (hvG [15] (nm (r 0))) (nm (r 1))) (nm (r 2))) (nm (r 3)) := rfl
  rw [e]
  refine sorted_ext d1 t1 fun x => ?_
  rw [d2, t2, closed_iff]
  constructor
  · rintro ⟨y, _, q⟩
    exact ⟨y, q⟩
  · rintro ⟨y, q⟩
    refine ⟨y, fun p hp => ?_, q⟩
    have h3 : (3 : Fin 4).val = 3 := rfl
    have := p.isLt
    omega
theorem dv_sh {ns : List Int} (hn : ns.length = 4) (hb : ∀ v ∈ ns, 0 ≤ v ∧ v < 16) {x : Int} (h0 : 0 ≤ x) (h1 : x < 16) : dvF ns x = shF ns x := by
  have key : ∀ a b : Fin 16, (Builtin.bitAnd (a.val : Int) (b.val : Int) = (b.val : Int)) ↔ (Builtin.bitAnd (b.val : Int) (Builtin.bitNot (a.val : Int)) == 0) = true := by decide +kernel
  have e : ∀ k ∈ rangeKs 0 4, ∀ l, dvG ns x l k = shG ns x l k := by
    intro k hk l
    have hk' := mem_rangeKs hk
    have hm := hb _ (getD_mem (l := ns) (i := k.toNat) (by omega))
    obtain ⟨i, hi⟩ := fin16 hm.1 hm.2
    obtain ⟨j, hj⟩ := fin16 h0 h1
    unfold dvG shG
    rw [hi, hj]
    by_cases q : Builtin.bitAnd ((i.val : Nat) : Int) ((j.val : Nat) : Int) = ((j.val : Nat) : Int)
    · rw [if_pos q, if_pos ((key i j).mp q)]
    · rw [if_neg q, if_neg fun h => q ((key i j).mpr h)]
  unfold dvF shF
  congr 1
  have go : ∀ (ks l : List Int), (∀ k ∈ ks, ∀ l, dvG ns x l k = shG ns x l k) → ks.foldl (dvG ns x) l = ks.foldl (shG ns x) l := by
    intro ks
    induction ks with
    | nil => intro l _; rfl
    | cons k ks ih =>
      intro l h
      rw [List.foldl_cons, List.foldl_cons, h k List.mem_cons_self]
      exact ih _ fun k' hk' => h k' (List.mem_cons_of_mem _ hk')
  exact go _ _ e
theorem law_dual (r : Fin 4 → Fin 4 → Bool) (q : List Int) (hp : q.Perm ((tdF (msk r) (msk (trn r))).map (shF (msk r)))) (hs : q.Pairwise (· ≤ ·)) : q = tdF (msk (trn r)) (msk r) := by
  obtain ⟨t1, t2, t3⟩ := td_spec (clo_wh r)
  obtain ⟨u1, u2, u3⟩ := td_spec (clo_wh (trn r))
  rw [trn_trn] at u1 u2 u3
  have back : ∀ w, Closed (whF (msk r) (msk (trn r))) w → shF (msk (trn r)) (shF (msk r) w) = w := fun w h => h.2.2
  refine perm_ext hp hs ?_ u1 fun x => ?_
  · refine List.Pairwise.map _ (R := fun a b => a ≠ b ∧ a ∈ tdF (msk r) (msk (trn r)) ∧ b ∈ tdF (msk r) (msk (trn r))) ?_ ?_
    · rintro a b ⟨hab, ha, hb⟩ e
      have h1 := back a ((t2 a).mp ha)
      have h2 := back b ((t2 b).mp hb)
      rw [e, h2] at h1
      exact hab h1.symm
    · have hn := lt_nodup t1
      exact List.Pairwise.imp_of_mem (fun {a b} ha hb hab => ⟨hab, ha, hb⟩) hn
  · rw [u2, List.mem_map]
    constructor
    · rintro ⟨w, hw, rfl⟩
      have h1 := back w ((t2 w).mp hw)
      have b := shF_bnd (msk r) w
      refine ⟨b.1, b.2, ?_⟩
      show shF (msk r) (shF (msk (trn r)) (shF (msk r) w)) = shF (msk r) w
      rw [h1]
    · rintro ⟨h0, h1, h2⟩
      have h3 : shF (msk r) (shF (msk (trn r)) x) = x := h2
      have b := shF_bnd (msk (trn r)) x
      refine ⟨shF (msk (trn r)) x, (t2 _).mpr ⟨b.1, b.2, ?_⟩, h3⟩
      show shF (msk (trn r)) (shF (msk r) (shF (msk (trn r)) x)) = shF (msk (trn r)) x
      rw [h3]
/-- The law's questions of four masks. -/
theorem law_masks {ns : List Int} (hn : ns.length = 4) (hb : ∀ v ∈ ns, 0 ≤ v ∧ v < 16) :
    (tuF ns).length = 4 ∧ (tdF ns (tuF ns)).length ≤ 16 ∧ (∀ q : List Int, q.Perm (chL ns) → q.Pairwise (· ≤ ·) → q = tdF ns (tuF ns)) ∧ hvF ns = tdF ns (tuF ns) ∧
    (tdF ns (tuF ns)).map (dvF ns) = (tdF ns (tuF ns)).map (shF ns) ∧ ((tdF ns (tuF ns)).map (shF ns)).map (shF (tuF ns)) = tdF ns (tuF ns) ∧
    (∀ q : List Int, q.Perm ((tdF ns (tuF ns)).map (shF ns)) → q.Pairwise (· ≤ ·) → q = tdF (tuF ns) ns) := by
  obtain ⟨r, rfl⟩ := msk_of hn hb
  rw [tu_msk]
  obtain ⟨t1, t2, t3⟩ := td_spec (clo_wh r)
  refine ⟨rfl, t3, law_choice r, law_halving r, ?_, ?_, law_dual r⟩
  · refine List.map_congr_left fun w hw => ?_
    obtain ⟨h0, h1, _⟩ := (t2 w).mp hw
    exact dv_sh hn hb h0 h1
  · rw [List.map_map]
    have e : (tdF (msk r) (msk (trn r))).map (shF (msk (trn r)) ∘ shF (msk r)) = (tdF (msk r) (msk (trn r))).map id := List.map_congr_left fun w hw => ((t2 w).mp hw).2.2
    rw [e, List.map_id]
end RL
end
section
open PySem PySem.W PyProof.Rows PySem.Calls
namespace RL
theorem ad23 (L : Nat) : @Ne Nat (L + 1 + 1) (L + 1 + 1 + 1) := by omega
theorem ad24 (L : Nat) : @Ne Nat (L + 1 + 1) (L + 1 + 1 + 1 + 1) := by omega
theorem ad32 (L : Nat) : @Ne Nat (L + 1 + 1 + 1) (L + 1 + 1) := by omega
theorem ad34 (L : Nat) : @Ne Nat (L + 1 + 1 + 1) (L + 1 + 1 + 1 + 1) := by omega
theorem ad35 (L : Nat) : @Ne Nat (L + 1 + 1 + 1) (L + 1 + 1 + 1 + 1 + 1) := by omega
theorem ad42 (L : Nat) : @Ne Nat (L + 1 + 1 + 1 + 1) (L + 1 + 1) := by omega
theorem ad43 (L : Nat) : @Ne Nat (L + 1 + 1 + 1 + 1) (L + 1 + 1 + 1) := by omega
theorem ad52 (L : Nat) : @Ne Nat (L + 1 + 1 + 1 + 1 + 1) (L + 1 + 1) := by omega
theorem ad53 (L : Nat) : @Ne Nat (L + 1 + 1 + 1 + 1 + 1) (L + 1 + 1 + 1) := by omega
theorem ad54 (L : Nat) : @Ne Nat (L + 1 + 1 + 1 + 1 + 1) (L + 1 + 1 + 1 + 1) := by omega
theorem cell_ne {g h : Heap} {L : Addr} {led : List (Addr × Obj)} (N : News g L h led) {p : Addr × Obj} {c : Addr} {oc : Obj} {v : Option Value} (h1 : p ∈ led) (h2 : (c, oc) ∈ led) (hc : oc.data = .cell v) (hp : ∀ v, p.2.data ≠ .cell v) : p.1 ≠ c := by
  intro e
  have z1 := (N _ h1).1
  have z2 := (N _ h2).1
  dsimp only at z2
  rw [e, z2] at z1
  have z3 := Option.some.inj z1
  rw [← z3] at hp
  exact hp v hc
theorem law_walk {w : World} {s : Shared} {mean : ExcName → Option Value} {mg mb : Str → Option Value} {Q : Flow → Shared → Prop} {name qual : Str} {params : Arguments} {body : List Stmt} {scope : Scope} {dV kV doc pm cdv0 cdv ct oc : Value} {an od : Option Addr} {osl : Array (Option Value)} {fa L l : Addr} {vs : List Value} {ns : List Int} {m : Str → Option Value} {oT oC oM oB oS : Obj} {g : Heap}  (hb : (hd.heap_39 w.params).lookup 185 = some ⟨oc, od, .func (fnX name qual params body scope [] dV kV doc pm an cdv0 ct), osl⟩) (X : (hd.heap_39 w.params).In g) (T : Top hd.view_39 (looseW hd.view_39 [Str.ofString "insort_left", Str.ofString "bisect_left", Str.ofString "Whitespace"]) mean mg mb g)
    (hl : g.IsList l vs.toArray) (hi : IntsAre vs ns) (hn : ns.length ≤ 63)
    (F : Fr g L s.heap m) (dT : oT.data = .cell none) (dC : oC.data = .cell none) (dM : oM.data = .cell none) (dB : oB.data = .cell none) (dS : oS.data = .cell (some (.ref l)))
    (N : News g L s.heap [(L + 1 + 1 + 1 + 1 + 1, oT), (L + 1 + 1 + 1 + 1, oC), (L + 1 + 1 + 1, oM), (L + 1 + 1, oB), (L + 1, oS)])
    (h : ∀ h' tk' m', Fr g L h' m' → Q (.ret (.bool true)) { s with heap := h', toks := tk' }) :
    wpAny (model Pg w) (Ar 400 200) (execs body (envOfC qual scope L fa cdv)) Q (fun _ _ => False) s := by
  have hb' := hb
  have e0 := look_eq hb (by k_is)
  revert hb'
  refine law_at (P := fun qual body scope => ((hd.heap_39 w.params).lookup 185 = some ⟨oc, od, .func (fnX name qual params body scope [] dV kV doc pm an cdv0 ct), osl⟩) → wpAny (model Pg w) (Ar 400 200) (execs body (envOfC qual scope L fa cdv)) Q (fun _ _ => False) s) e0 ?_
  clear e0 hb
  intro hb'

  k_unmd
  refine wpAny_execs_cons (st_cells hb' rfl X T hl hi hn F dS N fun h1 tk1 lc us ks F1 N1 hus hkl hk0 => ?_)
  clear F N
  dsimp only
  refine wpAny_execs_cons (st_aim hb' rfl X T F1 N1 hus hkl hk0 fun h2 tk2 t2 F2 N2 => ?_)
  clear F1 N1
  dsimp only
  have hak0 : 0 ≤ Int.fmod (ks.getD 0 0) 2 := Int.fmod_nonneg_of_pos _ (by decide)
  have hak1 : Int.fmod (ks.getD 0 0) 2 < 2 := Int.fmod_lt_of_pos _ (by decide)
  have hxc := aim_codes (Int.fdiv (ks.getD 0 0) 2) (Int.fmod (ks.getD 0 0) 2)
  have hxl := aim_len (Int.fdiv (ks.getD 0 0) 2) (Int.fmod (ks.getD 0 0) 2) (by omega)
  refine wpAny_execs_cons (st_goal hb' rfl X T F2 N2 hxc hxl fun h3 tk3 x dx tp tc us3 cnt b n nt t tb tn tt k1 k2 k3 k4 k5 F3 N3 l1 l2 l3 l4 hi1 he1 => ?_)
  clear F2 N2
  dsimp only
  have N3' : News g L h3 ((L + 1 + 1, oB) :: (x, instObj 122 dx) :: (dx, wsD w (Str.ofString "   \t" ++ ldF (Int.fdiv (ks.getD 0 0) 2) (Int.fmod (ks.getD 0 0) 2)) t n tn nt tt tp cnt.length k1 k2 k3 k4 k5) :: (tp, wsT tc b tb) :: (tc, wsC us3) :: (lc, LCg.lst us) :: (L + 1 + 1 + 1 + 1 + 1, oT) :: (L + 1 + 1 + 1 + 1, oC) :: (L + 1 + 1 + 1, oM) :: []) := fun p hp => N3 p (pick_mem _ [8, 0, 1, 2, 3, 4, 5, 6, 7] 10 hp)
  refine wpAny_execs_cons (st_bounds hb' rfl X T F3 N3' dB hxl (fun p hp => ?_) fun h4 tk4 lb ub nb oB4 F4 N4 dB4 hib => ?_)
  · have z := fun q => cell_ne N3' (p := p) (List.mem_cons_of_mem _ hp) List.mem_cons_self dB q
    simp only [List.mem_cons, List.not_mem_nil, or_false] at hp
    rcases hp with rfl | rfl | rfl | rfl | rfl | rfl | rfl | rfl
    · exact z fun v => nofun
    · exact z fun v => nofun
    · exact z fun v => nofun
    · exact z fun v => nofun
    · exact z fun v => nofun
    · exact ad52 L
    · exact ad42 L
    · exact ad32 L
  clear F3 N3 N3'
  dsimp only
  have N4' : News g L h4 ((L + 1 + 1 + 1, oM) :: (L + 1 + 1, oB4) :: (lb, listOf ub.toArray nb) :: (x, instObj 122 dx) :: (dx, wsD w (Str.ofString "   \t" ++ ldF (Int.fdiv (ks.getD 0 0) 2) (Int.fmod (ks.getD 0 0) 2)) t n tn nt tt tp cnt.length k1 k2 k3 k4 k5) :: (tp, wsT tc b tb) :: (tc, wsC us3) :: (lc, LCg.lst us) :: (L + 1 + 1 + 1 + 1 + 1, oT) :: (L + 1 + 1 + 1 + 1, oC) :: []) := fun p hp => N4 p (pick_mem _ [9, 1, 0, 2, 3, 4, 5, 6, 7, 8] 10 hp)
  refine wpAny_execs_cons (st_masks hb' rfl X T F4 N4' dM (fun p hp => ?_) fun h5 tk5 lm oM5 F5 N5 l5 dM5 => ?_)
  · have z := fun q => cell_ne N4' (p := p) (List.mem_cons_of_mem _ hp) List.mem_cons_self dM q
    simp only [List.mem_cons, List.not_mem_nil, or_false] at hp
    rcases hp with rfl | rfl | rfl | rfl | rfl | rfl | rfl | rfl | rfl
    · exact ad23 L
    · exact z fun v => nofun
    · exact z fun v => nofun
    · exact z fun v => nofun
    · exact z fun v => nofun
    · exact z fun v => nofun
    · exact z fun v => nofun
    · exact ad53 L
    · exact ad43 L
  clear F4 N4 N4'
  dsimp only
  refine Classical.byContradiction fun hG => ?_
  obtain ⟨m5, hm5, F5e⟩ := fr_map F5
  have hmc : m5 (Str.ofString "cells") = some (.ref lc) := by rw [hm5]; rfl
  have hmg : m5 (Str.ofString "goal") = some (.ref x) := by rw [hm5]; rfl
  clear hm5 F5
  refine hG ?_
  clear hG
  have N5' : News g L h5 ((lc, LCg.lst us) :: (L + 1 + 1 + 1 + 1, oC) :: (lm, listOf #[] 0) :: (L + 1 + 1 + 1, oM5) :: (L + 1 + 1, oB4) :: (lb, listOf ub.toArray nb) :: (x, instObj 122 dx) :: (dx, wsD w (Str.ofString "   \t" ++ ldF (Int.fdiv (ks.getD 0 0) 2) (Int.fmod (ks.getD 0 0) 2)) t n tn nt tt tp cnt.length k1 k2 k3 k4 k5) :: (tp, wsT tc b tb) :: (tc, wsC us3) :: [(L + 1 + 1 + 1 + 1 + 1, oT)]) := fun p hp => N5 p (pick_mem _ [8, 10, 0, 1, 2, 3, 4, 5, 6, 7, 9] 11 hp)
  refine wpAny_execs_cons (st_loop hb' rfl X T F5e hmc hmg N5' dC dM5 dB4 hus hkl hk0 rfl hak0 (by omega) hib hi1 he1 (fun p hp => ?_) (fun p hp => ?_) fun h6 tk6 m6 vm nm oC6 v6 F6 N6 dC6 hvm => ?_)
  · have z := fun q => cell_ne N5' (p := p) (List.mem_cons_of_mem _ (List.mem_cons_of_mem _ hp)) (List.mem_cons_of_mem _ List.mem_cons_self) dC q
    simp only [List.mem_cons, List.not_mem_nil, or_false] at hp
    rcases hp with rfl | rfl | rfl | rfl | rfl | rfl | rfl | rfl | rfl
    · exact z fun v => nofun
    · exact ad34 L
    · exact ad24 L
    · exact z fun v => nofun
    · exact z fun v => nofun
    · exact z fun v => nofun
    · exact z fun v => nofun
    · exact z fun v => nofun
    · exact ad54 L
  · exact Nat.ne_of_lt (l5 p (pick_mem _ [0, 1, 2, 3, 4, 5, 6, 8] 10 hp))
  clear F5e N5 N5' l5
  dsimp only
  generalize hxt : (Str.ofString "   \t" ++ ldF (Int.fdiv (ks.getD 0 0) 2) (Int.fmod (ks.getD 0 0) 2)) = xt at *
  have hml : ((ks.drop 1).map (tmF xt)).length = 4 := by rw [List.length_map, List.length_drop, hkl]
  have hmb : ∀ v ∈ (ks.drop 1).map (tmF xt), 0 ≤ v ∧ v < 16 := by
    intro v hv
    obtain ⟨k, _, rfl⟩ := List.mem_map.mp hv
    obtain ⟨_, _, d3, d4⟩ := du_facts (coL (ldF (Int.fdiv k 3) (1 + Int.fmod k 3))) (coL xt)
    exact ⟨d3, d4⟩
  generalize (ks.drop 1).map (tmF xt) = ms at *
  have N6' : News g L h6 ((L + 1 + 1 + 1 + 1 + 1, oT) :: (lm, listOf vm.toArray nm) :: (L + 1 + 1 + 1, oM5) :: []) := fun p hp => N6 p (pick_mem _ [9, 1, 2] 10 hp)
  refine wpAny_execs_cons (st_turned hb' rfl X T F6 N6' dT dM5 hvm hml hmb (fun p hp => ?_) fun h7 tk7 lt ut oT7 F7 N7 dT7 hit => ?_)
  · have z := fun q => cell_ne N6' (p := p) (List.mem_cons_of_mem _ hp) List.mem_cons_self dT q
    simp only [List.mem_cons, List.not_mem_nil, or_false] at hp
    rcases hp with rfl | rfl
    · exact z fun v => nofun
    · exact ad35 L
  clear F6 N6 N6'
  dsimp only
  refine Classical.byContradiction fun hG => ?_
  obtain ⟨q1, q2, q3, q4, q5, q6, q7⟩ := law_masks hml hmb
  refine hG ?_
  clear hG
  generalize tuF ms = ts at *
  have N7' : News g L h7 ((L + 1 + 1 + 1, oM5) :: (lm, listOf vm.toArray nm) :: (L + 1 + 1 + 1 + 1 + 1, oT7) :: (lt, LCg.lst ut) :: []) := fun p hp => N7 p (pick_mem _ [3, 2, 0, 1] 4 hp)
  refine wpAny_execs_cons (st_told hb' rfl X T F7 N7' dT7 dM5 hvm hml hit q1 fun h8 tk8 ld us8 n8 F8 N8 hi8 => ?_)
  clear F7 N7 N7'
  dsimp only
  refine Classical.byContradiction fun hG => ?_
  obtain ⟨m8, hm8, F8e⟩ := fr_map F8
  have ht8 : m8 (Str.ofString "told") = some (.ref ld) := by rw [hm8]; rfl
  clear hm8 F8
  refine hG ?_
  clear hG
  refine wpAny_execs_cons (st_check hb' rfl X T (List.forall_mem_cons.mpr ⟨ht8, List.forall_mem_nil _⟩) F8e N8 dT7 dM5 hvm hml hit q1 hi8 q3 q4 fun h9 tk9 F9 N9 => ?_)
  clear F8e N8
  dsimp only
  refine wpAny_execs_cons (st_partners hb' rfl X T (List.forall_mem_cons.mpr ⟨ht8, List.forall_mem_nil _⟩) F9 N9 dT7 dM5 hvm hml hit q1 hi8 q2 fun h10 tk10 lp up F10 N10 hip => ?_)
  clear F9 N9
  dsimp only
  refine Classical.byContradiction fun hG => ?_
  obtain ⟨m10, hm10, F10e⟩ := fr_map F10
  have ht10 : m10 (Str.ofString "told") = some (.ref ld) := by rw [hm10]; exact ht8
  have hp10 : m10 (Str.ofString "partners") = some (.ref lp) := by rw [hm10]; rfl
  clear hm10 F10
  refine hG ?_
  clear hG
  refine wpAny_execs_cons (st_same hb' rfl X T (List.forall_mem_cons.mpr ⟨ht10, List.forall_mem_cons.mpr ⟨hp10, List.forall_mem_nil _⟩⟩) F10e N10 dT7 dM5 hvm hml hit q1 hi8 q2 hip q5 fun h11 tk11 F11 N11 => ?_)
  clear F10e N10
  dsimp only
  have hpl : ((tdF ms ts).map (shF ms)).length ≤ 16 := by rw [List.length_map]; exact q2
  refine wpAny_execs_cons (st_back hb' rfl X T (List.forall_mem_cons.mpr ⟨ht10, List.forall_mem_cons.mpr ⟨hp10, List.forall_mem_nil _⟩⟩) F11 N11 dT7 dM5 hvm hml hit q1 hi8 hip hpl q6 fun h12 tk12 F12 N12 => ?_)
  clear F11 N11
  dsimp only
  have N12' : News g L h12 ((lp, LCg.lst up) :: (L + 1 + 1 + 1, oM5) :: (lm, listOf vm.toArray nm) :: (L + 1 + 1 + 1 + 1 + 1, oT7) :: (lt, LCg.lst ut) :: []) := fun p hp => N12 p (pick_mem _ [0, 2, 3, 4, 5] 6 hp)
  refine wpAny_execs_cons (st_ret hb' rfl X T (List.forall_mem_cons.mpr ⟨hp10, List.forall_mem_nil _⟩) F12 N12' dT7 dM5 hvm hml hit q1 hip hpl q7 fun h13 tk13 m13 F13 => ?_)
  exact h _ _ _ F13
end RL
end
open PySem PySem.W PyProof.Rows PySem.Calls
theorem PySem.Challenge.cw_rl0075_01_holds : PySem.Challenge.rw_rl0075_01.Holds := by
  refine RL.hd ?_
  k_go0
  rename_i hcond _ K0 hD h1 tk1 F w4 w3 w2 w1 w0 dT dC dM dB dS N0 X0
  clear X0
  with_reducible rename Top _ _ _ _ _ _ => hT
  with_reducible rename Frag.In _ _ => hX
  with_reducible rename IntsAre _ _ => hI
  with_reducible rename Heap.IsList _ _ _ => hL
  refine' wpAny_mono (RL.lower rfl (by exact Nat.le_of_ble_eq_true rfl) (by exact Nat.le_of_ble_eq_true rfl) (RL.law_walk ?hb hX hT hL hI ?hn F dT dC dM dB dS N0 ?h)) (fun _ _ z => z) (fun _ _ z => False.elim z)
  case hb => k_is
  case hn =>
    skip
    omega
  case h =>
    intro h2 tk2 m2 F2
    clear F dT dC dM dB dS N0
    dsimp only
    wrow_close
