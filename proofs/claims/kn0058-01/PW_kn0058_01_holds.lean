import PyProof.Rows.All
import Wide.All
import OpenK.AllK
import Wide.FinOn
import Lean
import PySem.Challenge.RW_kn0058_01
set_option Elab.async false
set_option maxRecDepth 100000
set_option maxHeartbeats 8000000
set_option rowWalk.seconds 0
section
open PySem PySem.W PyProof.Rows
namespace Mine
open_top hd for PySem.Challenge.rw_kn0058_01
end Mine
end
section
namespace Mine
open PySem PySem.W PySem.Spec PySem.Calls PyProof.Rows PyProof.Rows.LCg
section
variable {prog : Program} {w : World} {A : Around} {E : Value → Shared → Prop} {s : Shared} {h₀ : Heap} {L : Addr} {m : Str → Option Value} {env : Env}

def SrcD (prog : Program) (w : World) (A : Around) (h₀ : Heap) (L : Addr) (m : Str → Option Value) (env : Env) (elt : Expr) (x : Str) (scope : Scope) (cl : List (Str × Addr)) (Fin : Shared → List Value → List (Addr × Obj) → Prop) (xv : Value) (s₁ : Shared) : Prop :=
  ∃ r a b c t u v n news, xv = .ref r ∧ A.handled = none ∧ Fr h₀ L s₁.heap m ∧ News h₀ L s₁.heap news ∧ IsRange s₁.heap r a b c t u v ∧ Builtin.Range.small a b c = true ∧ Builtin.Range.rangeSize a b c = ((n : Nat) : Int) ∧ n ≤ sizeLine ∧
    ∀ g : Heap, CompRest prog w A h₀ L m env elt x scope cl { s₁ with heap := g } (fun _ => True) (fun i v => ∃ t, v = .int (a + (i : Int) * c) t) (Fin { s₁ with heap := g }) n 0 [] news

theorem range_walksD {I : Addr} (hh : A.handled = none) (a c : Int) (n : Nat) : Walks prog w A I [I] [I] n (fun i v => ∃ t, v = .int (a + (i : Int) * c) t) (fun i h => IsRangeIter h I (a + (i : Nat) * c) ((n : Int) - (i : Nat)) c) :=
  Walks.range hh I a c n

theorem range_stD {I : Addr} {a c : Int} {n : Nat} : ∀ i (h h' : Heap) (o : Obj) (nw : List (Addr × Obj)), IsRangeIter h I (a + (i : Nat) * c) ((n : Int) - (i : Nat)) c → h.get? I = some o → h'.get? I = some o → (∀ b o, h₀.get? b = some o → h'.get? b = some o) → News h₀ L h' nw → True → IsRangeIter h' I (a + (i : Nat) * c) ((n : Int) - (i : Nat)) c := by
  intro i h h' o nw st e e' _ _ _
  have st' : h.get? I = some _ := st
  show h'.get? I = some _
  rw [e', ← e]; exact st'

theorem ListComp_D {elt iter : Expr} {x : Str} {px : Pos} {scope : Scope} {cl : List (Str × Addr)} {pos : Pos} {Q : Value → Shared → Prop} (_F₀ : Fr h₀ L s.heap m)
    (hclos : closureFor scope env = pure cl) (hcell : ∀ y ∈ scope.names, y.2 ≠ .cell) (hkind : scope.kind = .function)
    (hnames : ∀ y ∈ scope.names, y.2 = .local → scope.names.lookup y.1 = some .local) (hx : scope.names.lookup x = some .local)
    (h : wpAny (model prog w) A (eval iter env) (SrcD prog w A h₀ L m env elt x scope cl (fun s₂ => FinE h₀ L m s₂ Q)) E s)
    (hs : ∀ x, foldedSetIterable iter env x = pure x := by intro _; rfl) :
    wpAny (model prog w) A (eval (.ListComp elt [⟨.Name x px, iter, [], 0⟩] scope pos) env) Q E s := by
  rw [eval_ListComp]
  refine wpAny_comprehension_free (use := none) rfl hs hclos hkind hnames (wpAny_mono h (fun xv s₁ h₁ => ?_) fun _ _ e => e)
  obtain ⟨r, a, b, c, t, u, v, n, news, rfl, hh, F, N, hr, hsm, hn, hsz, R⟩ := h₁
  refine wpAny_pyIter_range hr hsm ?_
  refine block_U (range_walksD hh a c n) hsz (fun i h st => ⟨_, st⟩) range_stD hcell hkind hx ?_ ?_ (F.keeps fun _ _ e => Heap.get?_push_of_some _ e) (N.grown fun _ _ e => Heap.get?_push_of_some _ e) (Nat.ne_of_lt F.ns.lt) (next_is_new F) (fun p hp => Nat.ne_of_lt (Heap.lt_size (N p hp).1)) trivial (R _) ?_
  · show IsRangeIter _ _ _ _ _
    rw [hn]
    simpa using Heap.get?_push_size _ rfl
  · intro b' hb
    rw [List.mem_singleton.mp hb]
    show s₁.heap.objs.size < (s₁.heap.push _).objs.size
    rw [Heap.size_push]
    exact Nat.lt_succ_self _
  · intro D C h' tk m' ys news' F' N' o1 hn' hC₀ hD₀ hCL hDL hCD offC fin
    refine ⟨m', hn', fun h'' hs'' => fin D h'' tk (F'.change hs'' hCL hC₀) (fun p hp => ?_) o1⟩
    refine ⟨hs''.extBut _ _ ?_ (N' p hp).1, (N' p hp).2⟩
    rcases List.mem_cons.mp hp with rfl | hp
    · exact Ne.symm hCD
    · exact offC p hp
end
end Mine

end
section
namespace Mine
open PySem PySem.W PySem.Spec PySem.Calls PyProof.Rows
open PySem.Builtin.Str (reprChar)

def digN (i : Nat) : Nat := if i < 10 then 48 + i else 87 + i
def figsN : Nat → Nat → List Nat
  | 0, _ => []
  | n + 1, c => figsN n (c / 16) ++ [digN (c % 16)]

theorem figsN_length : ∀ n c, (figsN n c).length = n
  | 0, _ => rfl
  | n + 1, c => by simp [figsN, figsN_length n]

theorem digitChar_dig : ∀ i, i < 16 → (Nat.digitChar i).toNat = digN i := by decide

theorem toDigits_lt {c : Nat} (h : c < 16) : Nat.toDigits 16 c = [Nat.digitChar c] := Nat.toDigits_of_lt_base h
theorem toDigits_ge {c : Nat} (h : 16 ≤ c) : Nat.toDigits 16 c = Nat.toDigits 16 (c / 16) ++ [Nat.digitChar (c % 16)] := Nat.toDigits_of_base_le (by decide) h

theorem figs_hex : ∀ n c, c < 16 ^ (n + 1) → figsN (n + 1) c = List.replicate (n + 1 - ((Nat.toDigits 16 c).map Char.toNat).length) 48 ++ (Nat.toDigits 16 c).map Char.toNat
  | 0, c, h => by
    have h' : c < 16 := by simpa using h
    rw [toDigits_lt h']
    simp [figsN, Nat.mod_eq_of_lt h', digitChar_dig c h']
  | n + 1, c, h => by
    by_cases hc : c < 16
    · rw [toDigits_lt hc]
      have e := figs_hex n 0 (Nat.pow_pos (by decide))
      rw [toDigits_lt (by decide)] at e
      have h0 : c / 16 = 0 := Nat.div_eq_of_lt hc
      show figsN (n + 1) (c / 16) ++ [digN (c % 16)] = _
      rw [h0, e, Nat.mod_eq_of_lt hc]
      simp only [List.map_cons, List.map_nil, List.length_singleton, Nat.add_sub_cancel, digitChar_dig c hc]
      show List.replicate n 48 ++ [48] ++ [digN c] = List.replicate (n + 1) 48 ++ [digN c]
      rw [← List.replicate_succ']
    · have hge : 16 ≤ c := Nat.not_lt.mp hc
      rw [toDigits_ge hge]
      have hd : c / 16 < 16 ^ (n + 1) := by
        rw [Nat.div_lt_iff_lt_mul (by decide)]
        rw [Nat.pow_succ] at h
        exact h
      have e := figs_hex n (c / 16) hd
      show figsN (n + 1) (c / 16) ++ [digN (c % 16)] = _
      rw [e]
      simp only [List.map_append, List.map_cons, List.map_nil, List.length_append, List.length_singleton, List.length_map]
      rw [Nat.add_sub_add_right, List.append_assoc, digitChar_dig _ (Nat.mod_lt _ (by decide))]

def numL (c : Nat) : List Nat := if c < 256 then 92 :: 120 :: figsN 2 c else if c < 65536 then 92 :: 117 :: figsN 4 c else 92 :: 85 :: figsN 8 c

theorem reprChar_num {q c : Nat} (hq : c ≠ q) (h92 : c ≠ 92) (h10 : c ≠ 10) (h13 : c ≠ 13) (h9 : c ≠ 9) (hp : Unicode.isPrintable c = false) (hc : c < 1114112) : reprChar q c = numL c := by
  unfold reprChar numL
  simp only [beq_iff_eq, hq, h92, h10, h13, h9, hp, Bool.false_eq_true, if_false, Bool.or_false]
  have hq' : (c == q) = false := by simpa using hq
  have h92' : (c == 92) = false := by simpa using h92
  simp only [hq', h92', Bool.or_self, Bool.false_eq_true, if_false]
  split
  · rw [figs_hex 1 c (by omega)]; rfl
  · split
    · rw [figs_hex 3 c (by omega)]; rfl
    · rw [figs_hex 7 c (by omega)]; rfl

theorem item_fig {i : Int} (h0 : 0 ≤ i) (h : i < 16) : Txt.item (PySem.Str.ofString "0123456789abcdef") i = ⟨#[digN i.toNat]⟩ := by
  have hk : ∀ k, k < 16 → (PySem.Str.ofString "0123456789abcdef").cps[k]? = some (digN k) := by decide +kernel
  exact item_meets h0 (hk i.toNat (by omega))

theorem join_signs (l : List Nat) : Txt.join (PySem.Str.ofString "") (l.map fun c => (⟨#[c]⟩ : PySem.Str)) = ⟨l.toArray⟩ := by
  have e : Txt.join (PySem.Str.ofString "") (l.map fun c => (⟨#[c]⟩ : PySem.Str)) = PySem.Str.join (PySem.Str.ofString "") (l.map fun c => (⟨#[c]⟩ : PySem.Str)) := StrLaws.glued_eq_join _ _
  rw [e, show PySem.Str.ofString "" = ⟨#[]⟩ from by decide +kernel]
  have := join_nil_signs (⟨l.toArray⟩ : PySem.Str)
  rw [← this]
  congr 1

theorem figsN_eq : ∀ n c, figsN n c = (List.range n).reverse.map fun k => digN (c / 16 ^ k % 16)
  | 0, _ => rfl
  | n + 1, c => by
    show figsN n (c / 16) ++ [digN (c % 16)] = _
    rw [figsN_eq n (c / 16), List.range_succ_eq_map, List.reverse_cons, List.map_append, ← List.map_reverse, List.map_map]
    congr 1
    · refine List.map_congr_left fun k _ => ?_
      show digN (c / 16 / 16 ^ k % 16) = digN (c / 16 ^ (k + 1) % 16)
      rw [Nat.div_div_eq_div_mul, Nat.pow_succ, Nat.mul_comm 16]
    · simp

theorem fig_val {c e : Int} {k : Nat} (h0 : 0 ≤ c) (he : e = (k : Int)) : Txt.item (PySem.Str.ofString "0123456789abcdef") ((c.fdiv (16 ^ e.toNat)).fmod 16) = ⟨#[digN (c.toNat / 16 ^ k % 16)]⟩ := by
  subst he
  obtain ⟨n, rfl⟩ := Int.eq_ofNat_of_zero_le h0
  have e1 : ((n : Int).fdiv (16 ^ ((k : Int).toNat))).fmod 16 = ((n / 16 ^ k % 16 : Nat) : Int) := by
    rw [Int.toNat_natCast, Int.fdiv_eq_ediv_of_nonneg _ (Int.le_of_lt (Int.pow_pos (by decide))), Int.fmod_eq_emod_of_nonneg _ (by decide)]
    push_cast
    rfl
  rw [e1, item_fig (Int.natCast_nonneg _) (by have := Nat.mod_lt (n / 16 ^ k) (show 0 < 16 by decide); omega), Int.toNat_natCast, Int.toNat_natCast]

theorem figs_join {vs : List PySem.Str} {n : Nat} {c : Nat} (h : vs = ((List.range n).reverse.map fun k => (⟨#[digN (c / 16 ^ k % 16)]⟩ : PySem.Str))) : Txt.join (PySem.Str.ofString "") vs = ⟨(figsN n c).toArray⟩ := by
  subst h
  rw [figsN_eq, ← join_signs, List.map_map]
  rfl

theorem app_mk (a b : List Nat) : (⟨a.toArray⟩ : PySem.Str) ++ ⟨b.toArray⟩ = ⟨(a ++ b).toArray⟩ := by
  refine PySem.Str.ext' (Array.toList_inj.mp ?_)
  rw [PySem.Str.cps_append]
  simp
theorem num_x {c : Int} (h : c < 256) : PySem.Str.ofString "\\x" ++ (⟨(figsN 2 c.toNat).toArray⟩ : PySem.Str) = ⟨(numL c.toNat).toArray⟩ := by
  rw [show PySem.Str.ofString "\\x" = ⟨[92, 120].toArray⟩ from by decide +kernel, app_mk]
  unfold numL
  rw [if_pos (by omega)]
  rfl
theorem num_u {c : Int} (h : ¬ c < 256) (h2 : c < 65536) : PySem.Str.ofString "\\u" ++ (⟨(figsN 4 c.toNat).toArray⟩ : PySem.Str) = ⟨(numL c.toNat).toArray⟩ := by
  rw [show PySem.Str.ofString "\\u" = ⟨[92, 117].toArray⟩ from by decide +kernel, app_mk]
  unfold numL
  rw [if_neg (by omega), if_pos (by omega)]
  rfl
theorem num_U {c : Int} (h2 : ¬ c < 65536) : PySem.Str.ofString "\\U" ++ (⟨(figsN 8 c.toNat).toArray⟩ : PySem.Str) = ⟨(numL c.toNat).toArray⟩ := by
  rw [show PySem.Str.ofString "\\U" = ⟨[92, 85].toArray⟩ from by decide +kernel, app_mk]
  unfold numL
  rw [if_neg (by omega), if_neg (by omega)]
  rfl

def IsQuote (x : PySem.Str) (q : Nat) : Prop := x = ⟨#[q]⟩ ∧ (q = 39 ∨ q = 34)
theorem printable_ascii : ∀ c, c < 128 → Unicode.isPrintable c = (decide (32 ≤ c) && decide (c < 127)) := by decide +kernel
theorem asc_q {c : Int} {q : Nat} (h : c = 92 ∨ c = (q : Int)) : PySem.Str.ofString "\\" ++ (⟨#[c.toNat]⟩ : PySem.Str) = ⟨(reprChar q c.toNat).toArray⟩ := by
  rw [show PySem.Str.ofString "\\" = ⟨[92].toArray⟩ from by decide +kernel, show (⟨#[c.toNat]⟩ : PySem.Str) = ⟨[c.toNat].toArray⟩ from rfl, app_mk]
  unfold reprChar
  rw [if_pos]
  · rfl
  · rcases h with h | h
    · subst h; simp
    · subst h; simp
theorem asc_9 {c : Int} {q : Nat} (hq : q = 39 ∨ q = 34) (h : c = 9) : PySem.Str.ofString "\\t" = ⟨(reprChar q c.toNat).toArray⟩ := by
  subst h; rcases hq with h | h <;> subst h <;> decide +kernel
theorem asc_10 {c : Int} {q : Nat} (hq : q = 39 ∨ q = 34) (h : c = 10) : PySem.Str.ofString "\\n" = ⟨(reprChar q c.toNat).toArray⟩ := by
  subst h; rcases hq with h | h <;> subst h <;> decide +kernel
theorem asc_13 {c : Int} {q : Nat} (hq : q = 39 ∨ q = 34) (h : c = 13) : PySem.Str.ofString "\\r" = ⟨(reprChar q c.toNat).toArray⟩ := by
  subst h; rcases hq with h | h <;> subst h <;> decide +kernel
theorem asc_out {c : Int} (h : ([9, 10, 13].any fun x => x == c) = true) (h1 : ¬ c = 9) (h2 : ¬ c = 10) (h3 : ¬ c = 13) : False := by
  simp only [List.any_cons, List.any_nil, Bool.or_false, Bool.or_eq_true, beq_iff_eq] at h
  omega
theorem asc_num {c : Int} {q : Nat} (h0 : 0 ≤ c) (hc : c < 32 ∨ c = 127) (ha : c ≠ 92) (hq : c ≠ (q : Int)) (h : ([9, 10, 13].any fun x => x == c) = false) : (⟨(numL c.toNat).toArray⟩ : PySem.Str) = ⟨(reprChar q c.toNat).toArray⟩ := by
  simp only [List.any_cons, List.any_nil, Bool.or_false, Bool.or_eq_false_iff, beq_eq_false_iff_ne, ne_eq] at h
  rw [reprChar_num (by omega) (by omega) (by omega) (by omega) (by omega) ?_ (by omega)]
  rw [printable_ascii _ (by omega)]
  simp only [Bool.and_eq_false_iff, decide_eq_false_iff_not]
  omega
theorem asc_bare {c : Int} {q : Nat} (h0 : 0 ≤ c) (h8 : c < 128) (h3 : ¬ c < 32) (h7 : c ≠ 127) (ha : c ≠ 92) (hq : c ≠ (q : Int)) : (⟨#[c.toNat]⟩ : PySem.Str) = ⟨(reprChar q c.toNat).toArray⟩ := by
  unfold reprChar
  have e1 : (c.toNat == q || c.toNat == 92) = false := by
    simp only [Bool.or_eq_false_iff, beq_eq_false_iff_ne, ne_eq]
    omega
  have e2 : Unicode.isPrintable c.toNat = true := by
    rw [printable_ascii _ (by omega)]
    simp only [Bool.and_eq_true, decide_eq_true_eq]
    omega
  have h10 : (c.toNat == 10) = false := by simp only [beq_eq_false_iff_ne, ne_eq]; omega
  have h13 : (c.toNat == 13) = false := by simp only [beq_eq_false_iff_ne, ne_eq]; omega
  have h9 : (c.toNat == 9) = false := by simp only [beq_eq_false_iff_ne, ne_eq]; omega
  simp only [e1, e2, h10, h13, h9, Bool.false_eq_true, if_false, if_true]
end Mine

end
section
open PySem PySem.W PyProof.Rows Mine
namespace Mine

abbrev Clm (kd ku : Nat) (w : World) (f : Addr) (news : CbLed) (pre : Prop) (vs : List Value) (R : Tok → Value) : Prop :=
  ∀ {mean : ExcName → Option Value} {mg mb : Str → Option Value} {dp un : Nat} {gd : Option (List Code)} {cn : Str} {cs : Scope} {a : Addr} {ccd : Value} {cl : List (Str × Addr)} {outer : List Env} {A₀ : Around} {base h₀ : Heap} {L : Addr} {m : Str → Option Value} {s : Shared} {Q E : Value → Shared → Prop},
    Below A₀ base outer h₀ → Fr h₀ L s.heap m → (hd.heap_39 w.params).In h₀ → News h₀ L s.heap news → Top hd.view_39 (looseW hd.view_39 []) mean mg mb h₀ → cs.kind = .function →
    pre → dp + kd < recursionLimit → un + ku < cLine → CbRet h₀ L m news s Q R →
      wpAny (model PySem.Challenge.rw_kn0058_01.row.toRowW.prog w) (ktrTop dp un gd cn cs L a ccd cl outer) (call (.ref f) vs) Q E s

theorem Clm.weak {kd ku kd' ku' : Nat} {w : World} {f : Addr} {news : CbLed} {pre : Prop} {vs : List Value} {R : Tok → Value} (c : Clm kd ku w f news pre vs R) (h1 : kd ≤ kd') (h2 : ku ≤ ku') : Clm kd' ku' w f news pre vs R := by
  intro mean mg mb dp un gd cn cs a ccd cl outer A₀ base h₀ L m s Q E B F X N T hk hp hd hu hr
  exact c B F X N T hk hp (by omega) (by omega) hr
end Mine

end
section
open PySem PySem.W PyProof.Rows Mine
namespace Mine
theorem primed2 : PySem.Challenge.rw_kn0058_01 = PySem.Challenge.rw_kn0058_01 ∧ hd.heap_39 = hd.heap_39 := by
  w_top off
  k_fill
  exact ⟨rfl, rfl⟩
section
local macro_rules | `(tactic| k_room) => `(tactic| ktr_room)
local macro_rules | `(tactic| walk_at "eval ListComp") => `(tactic| (k_here; lcf_look; k_dflt (refine Mine.ListComp_D (by k_asm) (by with_unfolding_all rfl) (by decide) (by rfl) (by decide) (by rfl) ?_)))
local macro_rules | `(tactic| walk_at "SrcD") => `(tactic| (k_here; k_dflt (refine ⟨_, _, _, _, _, _, _, _, _, rfl, by rfl, by k_asm, by k_asm, by assumption, by first | decide | rfl, by first | rfl | decide, by exact Nat.le_of_ble_eq_true rfl, ?_⟩; intro g'; lcg_lit)))
local macro_rules | `(tactic| walk_at "CompRest") => `(tactic| (with_unfolding_all first
  | (refine LCg.CompRest.succ ?_; intro v' I' oI' C' oC' D' m' h' tk' E' hv' hC' hx' F' N' off' ne'; (obtain ⟨t9', hv9'⟩ := hv'; subst hv9'))
  | refine LCg.CompRest.zero ?_))
local macro_rules | `(tactic| walk_at "CompEnd") => `(tactic| (rename News _ _ _ _ => N9; rename LCg.Off3 _ _ _ _ => O9; refine LCg.CompEnd.intro (by assumption) N9 _ (fun p hp => hp) O9 (by trivial) ?_; clear N9 O9))
local macro_rules | `(tactic| cell_enter) => `(tactic| (refine' code_defC ?k1 ?k2 ?k3 ?k4 ?k5 ?kA ?kF ?kK ?k6 ?k7 ?k8 ?k9 ?kB ?kD ?_ ?c2 ?c3 ?c4; (case kA => exact rfl); (case kF => exact rfl); (case kK => assumption); (case k1 => k_asm); (case k2 => k_asm); (case k3 => k_asm); (case k4 => k_asm); (case k5 => k_asm); (case k6 => k_is); (case k7 => k_is); (case k8 => ktr_room); (case k9 => exact BindsTo.of_eq rfl); (case kB => exact rfl); (case kD => decide +kernel); (case c2 => exact rfl); (case c3 => exact rfl); (case c4 => exact rfl); k_whole; intro g' L' h' tk' cells' FG' F' N' Y' B' X' T' l1; (try k_lt l1); k_cells Y'; (try simp only [List.cons_append, List.nil_append] at N'); (try dsimp only); (try k_lift B'); (try k_fold)))

theorem figures2 (w : World) (news : CbLed) (c : Int) (t : Tok) (t2 : Tok) :
    Clm 2 8 w 33 news (0 ≤ c) [.int c t, .int 2 t2] (fun t => .str ⟨(figsN 2 c.toNat).toArray⟩ t) := by
  dsimp only [Clm, CbRet]; intros; rename_i h0 _ _ hret
  refine wpAny_call ?_
  k_dflt cell_enter
  k_steps
  refine cb_retS hret (figs_join ?_) (by assumption) (cb_drop (by assumption) (fun p hp => List.mem_cons_of_mem _ (List.mem_cons_of_mem _ hp)))
  rw [fig_val (k := 1) h0 (by rfl), fig_val (k := 0) h0 (by rfl)]
  rfl

theorem figures4 (w : World) (news : CbLed) (c : Int) (t : Tok) (t2 : Tok) :
    Clm 2 8 w 33 news (0 ≤ c) [.int c t, .int 4 t2] (fun t => .str ⟨(figsN 4 c.toNat).toArray⟩ t) := by
  dsimp only [Clm, CbRet]; intros; rename_i h0 _ _ hret
  refine wpAny_call ?_
  k_dflt cell_enter
  k_steps
  refine cb_retS hret (figs_join ?_) (by assumption) (cb_drop (by assumption) (fun p hp => List.mem_cons_of_mem _ (List.mem_cons_of_mem _ hp)))
  rw [fig_val (k := 3) h0 (by rfl), fig_val (k := 2) h0 (by rfl), fig_val (k := 1) h0 (by rfl), fig_val (k := 0) h0 (by rfl)]
  rfl

theorem figures8 (w : World) (news : CbLed) (c : Int) (t : Tok) (t2 : Tok) :
    Clm 2 8 w 33 news (0 ≤ c) [.int c t, .int 8 t2] (fun t => .str ⟨(figsN 8 c.toNat).toArray⟩ t) := by
  dsimp only [Clm, CbRet]; intros; rename_i h0 _ _ hret
  refine wpAny_call ?_
  k_dflt cell_enter
  k_steps
  refine cb_retS hret (figs_join ?_) (by assumption) (cb_drop (by assumption) (fun p hp => List.mem_cons_of_mem _ (List.mem_cons_of_mem _ hp)))
  rw [fig_val (k := 7) h0 (by rfl), fig_val (k := 6) h0 (by rfl), fig_val (k := 5) h0 (by rfl), fig_val (k := 4) h0 (by rfl), fig_val (k := 3) h0 (by rfl), fig_val (k := 2) h0 (by rfl), fig_val (k := 1) h0 (by rfl), fig_val (k := 0) h0 (by rfl)]
  rfl
end
end Mine

end
section
open PySem PySem.W PyProof.Rows Mine
namespace Mine
theorem primed3 : PySem.Challenge.rw_kn0058_01 = PySem.Challenge.rw_kn0058_01 ∧ hd.heap_39 = hd.heap_39 := by
  w_top off
  k_fill
  exact ⟨rfl, rfl⟩
section
local macro_rules | `(tactic| k_room) => `(tactic| ktr_room)
local macro_rules | `(tactic| walk_at "call ref") => `(tactic| (k_here; k_dflt (show wpAny _ _ (call (Value.ref 33) [Value.int _ _, Value.int 2 _]) _ _ _); k_dflt (refine' figures2 _ _ _ _ _ ?k1 ?k2 ?k3 ?k4 ?k5 ?k6 ?k7 ?k8 ?k9 ?_; (case k1 => k_asm); (case k2 => k_asm); (case k3 => k_asm); (case k4 => k_asm); (case k5 => k_asm); (case k6 => first | exact rfl | assumption); (case k7 => first | trivial | omega | assumption); (case k8 => ktr_room); (case k9 => ktr_units)); intro t9 h9 tk9 F9 N9; (try dsimp only); (try k_fold)))
local macro_rules | `(tactic| walk_at "call ref") => `(tactic| (k_here; k_dflt (show wpAny _ _ (call (Value.ref 33) [Value.int _ _, Value.int 4 _]) _ _ _); k_dflt (refine' figures4 _ _ _ _ _ ?k1 ?k2 ?k3 ?k4 ?k5 ?k6 ?k7 ?k8 ?k9 ?_; (case k1 => k_asm); (case k2 => k_asm); (case k3 => k_asm); (case k4 => k_asm); (case k5 => k_asm); (case k6 => first | exact rfl | assumption); (case k7 => first | trivial | omega | assumption); (case k8 => ktr_room); (case k9 => ktr_units)); intro t9 h9 tk9 F9 N9; (try dsimp only); (try k_fold)))
local macro_rules | `(tactic| walk_at "call ref") => `(tactic| (k_here; k_dflt (show wpAny _ _ (call (Value.ref 33) [Value.int _ _, Value.int 8 _]) _ _ _); k_dflt (refine' figures8 _ _ _ _ _ ?k1 ?k2 ?k3 ?k4 ?k5 ?k6 ?k7 ?k8 ?k9 ?_; (case k1 => k_asm); (case k2 => k_asm); (case k3 => k_asm); (case k4 => k_asm); (case k5 => k_asm); (case k6 => first | exact rfl | assumption); (case k7 => first | trivial | omega | assumption); (case k8 => ktr_room); (case k9 => ktr_units)); intro t9 h9 tk9 F9 N9; (try dsimp only); (try k_fold)))

theorem number_claim (w : World) (news : CbLed) (c : Int) (t : Tok) :
    Clm 3 11 w 40 news (0 ≤ c) [.int c t] (fun t => .str ⟨(numL c.toNat).toArray⟩ t) := by
  dsimp only [Clm, CbRet]; intros; rename_i h0 _ _ hret
  refine wpAny_call ?_
  k_dflt cell_enter
  k_steps
  · exact cb_retS hret (num_x (by assumption)) (by assumption) (by assumption)
  · exact cb_retS hret (num_u (by assumption) (by assumption)) (by assumption) (by assumption)
  · exact cb_retS hret (num_U (by assumption)) (by assumption) (by assumption)
end
end Mine

end
section
open PySem PySem.W PyProof.Rows Mine
open PySem.Builtin.Str (reprChar)
namespace Mine
theorem primed4 : PySem.Challenge.rw_kn0058_01 = PySem.Challenge.rw_kn0058_01 ∧ hd.heap_39 = hd.heap_39 := by
  w_top off
  k_fill
  exact ⟨rfl, rfl⟩
section
local macro_rules | `(tactic| k_room) => `(tactic| ktr_room)
local macro_rules | `(tactic| walk_at "call ref") => `(tactic| (k_here; k_dflt (show wpAny _ _ (call (Value.ref 40) [Value.int _ _]) _ _ _); k_dflt (refine' number_claim _ _ _ _ ?k1 ?k2 ?k3 ?k4 ?k5 ?k6 ?k7 ?k8 ?k9 ?_; (case k1 => k_asm); (case k2 => k_asm); (case k3 => k_asm); (case k4 => k_asm); (case k5 => k_asm); (case k6 => first | exact rfl | assumption); (case k7 => first | trivial | omega | assumption); (case k8 => ktr_room); (case k9 => ktr_units)); intro t9 h9 tk9 F9 N9; (try dsimp only); (try k_fold)))

theorem ascii_claim (w : World) (news : CbLed) (c : Int) (t : Tok) (x : PySem.Str) (t2 : Tok) (q : Nat) :
    Clm 4 14 w 47 news ((0 ≤ c ∧ c < 128) ∧ IsQuote x q) [.int c t, .str x t2] (fun t => .str ⟨(reprChar q c.toNat).toArray⟩ t) := by
  dsimp only [Clm, CbRet]; intros; rename_i hp _ _ hret
  obtain ⟨⟨h0, h1⟩, hx, hq⟩ := hp
  subst hx
  refine wpAny_call ?_
  k_dflt cell_enter
  k_steps
  all_goals first
    | exact asc_out (by assumption) (by assumption) (by assumption) (by assumption)
    | refine cb_retS hret ?_ (by assumption) (by first | assumption | exact cb_drop (by assumption) (fun p hp => List.mem_cons_of_mem _ hp) | exact cb_drop (by assumption) (fun p hp => List.mem_cons_of_mem _ (List.mem_cons_of_mem _ hp)))
  all_goals first
    | exact asc_q (Or.inl (by assumption))
    | exact asc_q (Or.inr (by assumption))
    | exact asc_9 hq (by assumption)
    | exact asc_10 hq (by assumption)
    | exact asc_13 hq (by assumption)
    | exact asc_num h0 (Or.inl (by assumption)) (by assumption) (by assumption) (by assumption)
    | exact asc_num h0 (Or.inr (by assumption)) (by assumption) (by assumption) (by assumption)
    | exact asc_bare h0 h1 (by assumption) (by assumption) (by assumption) (by assumption)
end
end Mine

end
section
open PySem PySem.W PyProof.Rows Mine
namespace Mine
theorem primed1 : PySem.Challenge.rw_kn0058_01 = PySem.Challenge.rw_kn0058_01 ∧ hd.heap_39 = hd.heap_39 := by
  w_top off
  k_fill
  exact ⟨rfl, rfl⟩

def bareEver (c : Int) : Bool := decide (161 ≤ c) && decide (c ≤ 255) && decide (c ≠ 173)
def bareNever (c : Int) : Bool := (decide (128 ≤ c) && decide (c ≤ 160)) || decide (c = 173) || (decide (55296 ≤ c) && decide (c < 57344))

section
local macro_rules | `(tactic| k_room) => `(tactic| ktr_room)
theorem ever_claim (w : World) (news : CbLed) (c : Int) (t : Tok) :
    Clm 1 8 w 54 news True [.int c t] (fun _ => .bool (bareEver c)) := by
  dsimp only [Clm, CbRet]; intros; rename_i hret
  refine wpAny_call ?_
  k_dflt cell_enter
  k_steps
  all_goals (unfold bareEver at hret)
  all_goals cb_end hret

theorem never_claim (w : World) (news : CbLed) (c : Int) (t : Tok) :
    Clm 1 8 w 61 news True [.int c t] (fun _ => .bool (bareNever c)) := by
  dsimp only [Clm, CbRet]; intros; rename_i hret
  refine wpAny_call ?_
  k_dflt cell_enter
  k_steps
  all_goals (unfold bareNever at hret)
  all_goals cb_end hret
end
end Mine

end
section
namespace Mine
open PySem PySem.W PySem.Spec PySem.Calls PyProof.Rows

theorem ucall : ExcCallFacts "UnicodeError" "UnicodeError.__new__" "UnicodeError.__init__" where
  ends := by decide +kernel
  owner := by decide +kernel
  entry := entryFor_alias (id' := "BaseException.__new__") (by rw [fastTable_eq_tree]; kernel_rfl) (by first | rfl | decide +kernel) (by decide +kernel) (by rw [fastTable_eq_tree]; kernel_rfl)
  sub := by rw [isSubtype_type]; kernel_rfl
  notAttr := by rw [isSubtype_type]; kernel_rfl
  notName := by rw [isSubtype_type]; kernel_rfl
  made := by kernel_rfl
  notType := by decide +kernel
  canMake := by kernel_rfl
  noVector := fun args => by kernel_rfl
  mro := ⟨[.type "UnicodeError", .type "ValueError", .type "Exception", .type "BaseException", .type "object"], by rw [mroOf_type]; kernel_rfl, rfl⟩
  madeBy := by kernel_rfl
  quiet := by decide +kernel
  newOk := fun rest => by kernel_rfl
  init := .of (owner := "UnicodeError") (n := "__init__") (by rw [typeLookup_type, builtinLookup_eq_fast]; kernel_rfl) (by decide +kernel) (by decide +kernel) (by decide +kernel)
    (by first | exact .inl (by decide +kernel) | exact .inr (by decide +kernel)) (by rw [isSubtype_type]; kernel_rfl)
  initEntry := entryFor_alias (id' := "BaseException.__init__") (by rw [fastTable_eq_tree]; kernel_rfl) (by first | rfl | decide +kernel) (by decide +kernel) (by rw [fastTable_eq_tree]; kernel_rfl)
  initSplit := by kernel_rfl
  initKind := by kernel_rfl
  initRow := by kernel_rfl
  noStar := by decide +kernel

theorem uraise : ExcRaiseFacts "UnicodeError" where
  isExc := by rw [isSubtype_type]; kernel_rfl
  plainMeta := by kernel_rfl

theorem enew : ExcNewFacts "UnicodeEncodeError" "UnicodeEncodeError.__new__" where
  ends := by decide +kernel
  owner := by decide +kernel
  entry := entryFor_alias (id' := "BaseException.__new__") (by rw [fastTable_eq_tree]; kernel_rfl) (by first | rfl | decide +kernel) (by decide +kernel) (by rw [fastTable_eq_tree]; kernel_rfl)
  sub := by rw [isSubtype_type]; kernel_rfl
  notAttr := by rw [isSubtype_type]; kernel_rfl
  notName := by rw [isSubtype_type]; kernel_rfl
  made := by kernel_rfl

theorem e_notType : (Value.type "UnicodeEncodeError" == Value.type "type") = false := by decide +kernel
theorem e_canMake : ((Manifest.find? "UnicodeEncodeError").bind fun x => List.findSome? (fun t => (Manifest.find? t).bind fun b =>
    if b.noNew = true then some true else if (b.attrs.any fun x => x.fst == "__new__") = true then some false else none) x.mro).getD false = false := by kernel_rfl
theorem e_noVector : ∀ args, checkTypeCall "UnicodeEncodeError" args = pure () := fun args => by kernel_rfl
theorem e_mro : mroOf (.type "UnicodeEncodeError") = pure [.type "UnicodeEncodeError", .type "UnicodeError", .type "ValueError", .type "Exception", .type "BaseException", .type "object"] := by rw [mroOf_type]; kernel_rfl
theorem e_madeBy : Bind.madeBy (.type "UnicodeEncodeError") = pure (some "UnicodeEncodeError.__new__") := by kernel_rfl
theorem e_quiet : "UnicodeEncodeError.__new__".startsWith "lifetime." = false := by decide +kernel
theorem e_newOk : ∀ rest : List Value, checkBuiltinCall "UnicodeEncodeError.__new__" ⟨.type "UnicodeEncodeError" :: rest, []⟩ = pure () := fun rest => by kernel_rfl
theorem e_init : Slot "UnicodeEncodeError" "__init__" "UnicodeEncodeError.__init__" := .of (owner := "UnicodeEncodeError") (n := "__init__") (by rw [typeLookup_type, builtinLookup_eq_fast]; kernel_rfl) (by decide +kernel) (by decide +kernel) (by decide +kernel)
    (by first | exact .inl (by decide +kernel) | exact .inr (by decide +kernel)) (by rw [isSubtype_type]; kernel_rfl)
theorem e_initEntry : entryFor table "UnicodeEncodeError.__init__" = some Builtin.«UnicodeEncodeError.__init__» := entryFor_of_tree (by kernel_rfl)
theorem e_initSplit : splitId "UnicodeEncodeError.__init__" = some ("UnicodeEncodeError", "__init__") := by kernel_rfl
theorem e_initKind : builtinKind "UnicodeEncodeError.__init__" = some .slot := by kernel_rfl
theorem e_initRow : Manifest.signature? "UnicodeEncodeError.__init__" = some ⟨.hand, "wrapper __init__", "", .self, []⟩ := by kernel_rfl
theorem e_sub : isSubtype (.type "UnicodeEncodeError") (.type "UnicodeError") = pure true := by rw [isSubtype_type]; kernel_rfl
theorem u_sub : isSubtype (.type "UnicodeError") (.type "UnicodeError") = pure true := by rw [isSubtype_type]; kernel_rfl
theorem u_exc : isSubtype (.type "UnicodeError") (.type "BaseException") = pure true := by rw [isSubtype_type]; kernel_rfl
theorem u_nt : isSubtype (.type ((Manifest.find? "UnicodeError").elim "type" fun y => y.metatype)) (.type "tuple") = pure false := by rw [isSubtype_type]; kernel_rfl
end Mine

end
section
namespace Mine
open PySem PySem.W PySem.Spec PySem.Calls PyProof.Rows

def ExcIs (h h' : Heap) (e : Addr) (cls : String) : Prop :=
  (∀ b o, h.get? b = some o → h'.get? b = some o) ∧ h.get? e = none ∧
    ∃ ob vs a0, h'.get? e = some ob ∧ ob.cls = .type cls ∧ ob.data = .fields vs ∧ vs[0]? = some a0 ∧ vs[1]? = some .none ∧ vs[2]? = some .none

section
variable {prog : Program} {w : World} {A : Around}
theorem e_check {M : Model} {self : Value} {rest : List Value} {E : Value → Shared → Prop} {Q : Unit → Shared → Prop}
    {hp : Heap} {g : Array GenState} {d : Drawn} {tk : Nat} {os : OsState} (hT : Shared.TypeIs ⟨hp, g, d, tk, os⟩ self "UnicodeEncodeError") (h : Q () ⟨hp, g, d, tk, os⟩) :
    wpAny M A (checkBuiltinCall "UnicodeEncodeError.__init__" ⟨self :: rest, []⟩) Q E ⟨hp, g, d, tk, os⟩ := by
  have hsub := enew.sub
  simp only [checkBuiltinCall, e_initKind, e_initSplit, e_initRow]
  wp_walk
  exact h


abbrev recU (vs : Array Value) : Obj := { cls := .type "UnicodeEncodeError", dict := none, data := .fields vs, slots := #[] }
section
open PySem.Builtin.UnicodeEncodeError
variable {M : Model} {E : Value → Shared → Prop} {s : Shared} {e : Addr} {a0 a1 a2 a3 a4 a5 b0 b1 b4 : Value} {i j : Int} {t t' : Tok}
theorem mem6 {Q : Members → Shared → Prop} (he : s.heap.get? e = some (recU #[a0, a1, a2, a3, a4, a5])) (h : Q {} s) : wpAny M A (members (.ref e)) Q E s := by
  unfold members
  refine wpAny_bind (m := fieldsOf (.ref e)) ?_
  unfold fieldsOf
  exact wpAny_bind (wpAny_load he (wpAny_pure (wpAny_pure h)))
theorem mem11 {Q : Members → Shared → Prop} (he : s.heap.get? e = some (recU #[a0, a1, a2, a3, a4, a5, b0, b1, .int i t, .int j t', b4])) (h : Q ⟨b0, b1, i, j, b4⟩ s) : wpAny M A (members (.ref e)) Q E s := by
  unfold members
  refine wpAny_bind (m := fieldsOf (.ref e)) ?_
  unfold fieldsOf
  exact wpAny_bind (wpAny_load he (wpAny_pure (wpAny_pure h)))
theorem set6 {m : Members} {Q : Unit → Shared → Prop} (he : s.heap.get? e = some (recU #[a0, a1, a2, a3, a4, a5]))
    (h : ∀ h', h'.get? e = some (recU #[a0, a1, a2, a3, a4, a5, m.encoding, m.object, rawInt m.start, rawInt m.stop, m.reason]) → Heap.SameBut e s.heap h' → Q () { s with heap := h' }) : wpAny M A (setMembers (.ref e) m) Q E s := by
  unfold setMembers
  exact wpAny_updateFields he rfl (h _ (Heap.get?_update_self _ he rfl) (Heap.SameBut.update ..)) (by rw [sizeLine_eq]; show 11 ≤ _; omega)
theorem set11 {m : Members} {Q : Unit → Shared → Prop} (he : s.heap.get? e = some (recU #[a0, a1, a2, a3, a4, a5, b0, b1, .int i t, .int j t', b4]))
    (h : ∀ h', h'.get? e = some (recU #[a0, a1, a2, a3, a4, a5, m.encoding, m.object, rawInt m.start, rawInt m.stop, m.reason]) → Heap.SameBut e s.heap h' → Q () { s with heap := h' }) : wpAny M A (setMembers (.ref e) m) Q E s := by
  unfold setMembers
  exact wpAny_updateFields he rfl (h _ (Heap.get?_update_self _ he rfl) (Heap.SameBut.update ..)) (by rw [sizeLine_eq]; show 11 ≤ _; omega)

theorem init_uee {x : PySem.Str} {tx t1 t2 t3 t4 : Tok} {c r : PySem.Str} {i j : Int} {Q : Fin → Shared → Prop} (hi : 0 ≤ i ∧ i < 2 ^ 63) (hj : 0 ≤ j ∧ j < 2 ^ 63)
    (he : s.heap.get? e = some (recU #[a0, .none, .none, .none, .bool false, .none]))
    (h : ∀ h' b, h'.get? e = some (recU #[b, .none, .none, .none, .bool false, .none, .str c t1, .str x tx, rawInt i, rawInt j, .str r t4]) → (∀ q o, q ≠ e → s.heap.get? q = some o → h'.get? q = some o) → Q (.done (.ret .none)) { s with heap := h' }) :
    wpAny M A (Builtin.«UnicodeEncodeError.__init__» ⟨[.ref e, .str c t1, .str x tx, .int i t2, .int j t3, .str r t4], []⟩) Q E s := by
  unfold Builtin.«UnicodeEncodeError.__init__»
  refine wpAny_bind ?_
  unfold beginInit
  dsimp only
  rw [if_neg (by simp)]
  refine wpAny_bind (m := field (.ref e) 0) (wpAny_field he rfl rfl ?_)
  unfold newTuple
  refine wpAny_bind (wpAny_newObj_type ?_ (by show 5 ≤ sizeLine; rw [sizeLine_eq]; omega))
  have he₁ := Heap.get?_push_of_some (h := s.heap) { cls := .type "tuple", data := .seq ([.str c t1, .str x tx, .int i t2, .int j t3, .str r t4] : List Value).toArray } he
  have k₁ : ∀ q o, q ≠ e → s.heap.get? q = some o → (s.heap.push { cls := .type "tuple", data := .seq ([.str c t1, .str x tx, .int i t2, .int j t3, .str r t4] : List Value).toArray }).get? q = some o := fun q o _ e => Heap.get?_push_of_some _ e
  have step : ∀ (h₁ : Heap), (∀ q o, q ≠ e → s.heap.get? q = some o → h₁.get? q = some o) → ∀ h₂, Heap.SameBut e h₁ h₂ → ∀ q o, q ≠ e → s.heap.get? q = some o → h₂.get? q = some o :=
    fun h₁ k h₂ hs q o hq eq => hs.extBut q o hq (k q o hq eq)
  refine wpAny_bind (wpAny_setField he₁ rfl (by show 0 < 6; decide) ?_)
  have he₂ : ((s.heap.push { cls := .type "tuple", data := .seq ([.str c t1, .str x tx, .int i t2, .int j t3, .str r t4] : List Value).toArray }).update e (Obj.mapFields (·.setIfInBounds 0 (.ref s.heap.objs.size)))).get? e = some (recU #[.ref s.heap.objs.size, .none, .none, .none, .bool false, .none]) :=
    Heap.get?_update_self _ he₁ rfl
  have k₂ := step _ k₁ _ (Heap.SameBut.update (h := (s.heap.push { cls := .type "tuple", data := .seq ([.str c t1, .str x tx, .int i t2, .int j t3, .str r t4] : List Value).toArray })) (a := e) (f := (Obj.mapFields (·.setIfInBounds 0 (.ref s.heap.objs.size)))))
  revert he₂ k₂
  generalize ((s.heap.push { cls := .type "tuple", data := .seq ([.str c t1, .str x tx, .int i t2, .int j t3, .str r t4] : List Value).toArray }).update e (Obj.mapFields (·.setIfInBounds 0 (.ref s.heap.objs.size)))) = h₂
  intro he₂ k₂
  refine wpAny_bind (wpAny_letGo ?_)
  rw [if_pos (show ((5 : Nat) == 5) = true from rfl)]
  refine wpAny_bind (mem6 he₂ ?_)
  refine wpAny_bind (set6 he₂ fun h₃ he₃ s₃ => ?_)
  have k₃ := step _ k₂ _ s₃
  refine wpAny_bind (wpAny_letGo ?_)
  refine wpAny_bind (mem11 he₃ ?_)
  refine wpAny_bind (set11 he₃ fun h₄ he₄ s₄ => ?_)
  have k₄ := step _ k₃ _ s₄
  refine wpAny_bind (wpAny_letGo ?_)
  refine wpAny_bind (mem11 he₄ ?_)
  refine wpAny_bind (set11 he₄ fun h₅ he₅ s₅ => ?_)
  have k₅ := step _ k₄ _ s₅
  refine wpAny_bind (wpAny_letGo ?_)
  rw [if_neg (by simp)]
  refine wpAny_pure ?_
  dsimp only
  have as : ∀ id n (y : PySem.Str) u, strArgument id n (.str y u) = pure () := fun id n y u => rfl
  have sz : ∀ id (n : Int) u, 0 ≤ n ∧ n < 2 ^ 63 → sizeArgument id (.int n u) = pure n := fun id n u hn => by
    show (if (decide (n < -(2 ^ 63 : Int)) || decide (n ≥ 2 ^ 63)) = true then _ else pure n) = pure n
    rw [if_neg]
    simp only [Bool.or_eq_true, decide_eq_true_eq]
    omega
  refine wpAny_bind (wpAny_of_eq (as _ _ _ _) ?_)
  refine wpAny_bind (wpAny_of_eq (as _ _ _ _) ?_)
  refine wpAny_bind ?_
  unfold initRange
  refine wpAny_bind (wpAny_of_eq (sz _ _ _ hi) ?_)
  refine wpAny_bind (mem11 he₅ ?_)
  refine wpAny_bind (set11 he₅ fun h₆ he₆ s₆ => ?_)
  have k₆ := step _ k₅ _ s₆
  refine wpAny_bind (wpAny_of_eq (sz _ _ _ hj) ?_)
  refine wpAny_bind (mem11 he₆ ?_)
  refine set11 he₆ fun h₇ he₇ s₇ => ?_
  have k₇ := step _ k₆ _ s₇
  refine wpAny_bind (wpAny_of_eq (as _ _ _ _) ?_)
  refine wpAny_bind (mem11 he₇ ?_)
  refine wpAny_bind (set11 he₇ fun h₈ he₈ s₈ => ?_)
  have k₈ := step _ k₇ _ s₈
  exact wpAny_pure (h h₈ _ he₈ k₈)

theorem call_uee {prog : Program} {w : World} {x : PySem.Str} {tx t1 t2 t3 t4 : Tok} {c r : PySem.Str} {i j : Int} {Q : Value → Shared → Prop} (hi : 0 ≤ i ∧ i < 2 ^ 63) (hj : 0 ≤ j ∧ j < 2 ^ 63)
    (h : ∀ h' e, ExcIs s.heap h' e "UnicodeEncodeError" → Q (.ref e) { s with heap := h' }) :
    wpAny (model prog w) A (call (.type "UnicodeEncodeError") [.str c t1, .str x tx, .int i t2, .int j t3, .str r t4]) Q E s := by
  obtain ⟨hp, g, d, tk, os⟩ := s
  refine wpAny_call (codeAny_of_tree ?_)
  show wpAny _ _ (again (.builtin "type.__call__" ⟨.type "UnicodeEncodeError" :: _, []⟩)) _ _ _
  refine wpAny_pure ⟨Code.quiet_builtin _ (by decide +kernel), codeAny_builtin entry_typeCall ?_⟩
  have hnt := e_notType
  have hcan := e_canMake
  have hchk := e_noVector ⟨[.str c t1, .str x tx, .int i t2, .int j t3, .str r t4], []⟩
  have hmro := e_mro
  have hmade := e_madeBy
  wp_walk
  refine codeAny_call_builtin_code (Code.quiet_builtin _ e_quiet) (wpAny_of_eq (e_newOk _) ?_)
  refine codeAny_exc_new enew ?_ (by show 5 ≤ sizeLine; rw [sizeLine_eq]; omega)
  show wpAny _ _ _ _ _ _
  have k₁ : ∀ b o, hp.get? b = some o → (hp.push { cls := .type "tuple", data := .seq ([.str c t1, .str x tx, .int i t2, .int j t3, .str r t4] : List Value).toArray }).get? b = some o := fun b o eb => Heap.get?_push_of_some _ eb
  have hsz : (hp.push { cls := .type "tuple", data := .seq ([.str c t1, .str x tx, .int i t2, .int j t3, .str r t4] : List Value).toArray }).objs.size = hp.objs.size + 1 := by rw [Heap.size_push]
  revert k₁ hsz
  generalize (hp.push { cls := .type "tuple", data := .seq ([.str c t1, .str x tx, .int i t2, .int j t3, .str r t4] : List Value).toArray }) = H
  intro k₁ hsz
  have hget : (H.push (recU #[.ref hp.objs.size, .none, .none, .none, .bool false, .none])).get? (hp.objs.size + 1) = some (recU #[.ref hp.objs.size, .none, .none, .none, .bool false, .none]) := by
    rw [← hsz]; exact Heap.get?_push_size _ rfl
  have k₂ : ∀ b o, hp.get? b = some o → (H.push (recU #[.ref hp.objs.size, .none, .none, .none, .bool false, .none])).get? b = some o := fun b o eb => Heap.get?_push_of_some _ (k₁ b o eb)
  revert hget k₂
  generalize (H.push (recU #[.ref hp.objs.size, .none, .none, .none, .bool false, .none])) = H₂
  intro hget k₂
  have hnew : hp.get? (hp.objs.size + 1) = none := Heap.get?_none_of_le (Nat.le_succ _)
  refine wpAny_bind (wpAny_isInstance ⟨_, hget, rfl⟩ enew.sub ?_)
  wp_step
  refine wpAny_bind (wpAny_holding (wpAny_callSpecial?_slot ⟨_, hget, rfl⟩ e_init (wpAny_call (codeAny_call_builtin e_init.plain e_initEntry (e_check ⟨_, hget, rfl⟩ ?_)))))
  refine init_uee hi hj hget fun h' b he' k' => ?_
  wp_walk
  refine h h' _ ⟨fun b o hb => k' b o (fun q => ?_) (k₂ b o hb), hnew, _, _, _, he', rfl, rfl, rfl, rfl, rfl⟩
  rw [q, hnew] at hb; cases hb
end
end
end Mine

end
section
namespace Mine
open PySem PySem.W PySem.Spec PySem.Calls PyProof.Rows
open PySem.Builtin

theorem enc_tree (x : PySem.Str) (t u : Tok) : «str.encode» ⟨[.str x t, .str (PySem.Str.ofString "ASCII") u], []⟩ =
    ((_codecs.encodeNarrow "str.encode" _codecs.asciiCodec none (.str x t) x >>= fun b => mkBytes b) >>= fun v => ret v) := by kernel_rfl

def isBad (c : Nat) : Bool := decide (c ≥ 128)
open _codecs in
theorem fault_tree (x : PySem.Str) (t : Tok) (i j : Nat) {α : Type} : (raiseEncodeFault {} "ascii" (.str x t) i j "ordinal not in range(128)" : Sem α) =
    (mkStr (PySem.Str.ofString "ascii") >>= fun a => (pure (.str x t) : Sem Value) >>= fun o => mkInt i >>= fun b => mkInt j >>= fun c => mkStr (PySem.Str.ofString "ordinal not in range(128)") >>= fun d =>
      call (.type "UnicodeEncodeError") [a, o, b, c, d] >>= fun e => raiseNew e) := by rfl

section
variable {prog : Program} {w : World} {A : Around} {E : Value → Shared → Prop} {s : Shared}
open _codecs

def encBytes (x : PySem.Str) : Array UInt8 := x.cps.foldl (fun acc y => acc ++ (asciiCodec.bytesOf y).toArray) #[]

theorem bad_iff (c : Nat) : asciiCodec.bad c = decide (c ≥ 128) := rfl
theorem strict_eq : ((none : Option PySem.Str).getD (PySem.Str.ofString "strict")).toString = "strict" := by decide +kernel

theorem raise_uee {x : PySem.Str} {t : Tok} {i j : Nat} {α : Type} {Q : α → Shared → Prop} (hh : A.handled = none) (hi : i < 2 ^ 62) (hj : j < 2 ^ 62)
    (h : ∀ h' tk e, ExcIs s.heap h' e "UnicodeEncodeError" → E (.ref e) { s with heap := h', toks := tk }) :
    wpAny (model prog w) A (raiseEncodeFault {} "ascii" (.str x t) i j "ordinal not in range(128)" : Sem α) Q E s := by
  rw [fault_tree]
  refine wpAny_bind (wpAny_mkStr (wpAny_bind (wpAny_pure (wpAny_bind (wpAny_mkInt (wpAny_bind (wpAny_mkInt (wpAny_bind (wpAny_mkStr (wpAny_bind ?_) (by decide +kernel)))))))) ) (by decide +kernel))
  refine call_uee (by omega) (by omega) fun h' e hx => ?_
  exact wpAny_raiseNew_none hh (h h' _ e hx)

theorem range_forIn {β : Type} {n : Nat} {b : β} {f : Nat → β → Sem (ForInStep β)} : (forIn [:n] b f : Sem β) = forIn (List.range' 0 n) b f := by
  rw [Std.Legacy.Range.forIn_eq_forIn_range']
  simp [Std.Legacy.Range.size]

theorem enc_size (l : List Nat) (acc : Array UInt8) : (l.foldl (fun acc y => acc ++ (asciiCodec.bytesOf y).toArray) acc).size = acc.size + l.length := by
  induction l generalizing acc with
  | nil => simp
  | cons c l ih =>
    rw [List.foldl_cons, ih, Array.size_append, List.length_cons]
    show acc.size + [c.toUInt8].toArray.size + l.length = _
    simp
    omega

theorem narrow_ok {x : PySem.Str} {t : Tok} {Q : Array UInt8 → Shared → Prop} (hx : ∀ c ∈ x.cps, c < 128) (hs : x.length ≤ 10000) (h : Q (encBytes x) s) :
    wpAny (model prog w) A (encodeNarrow "str.encode" asciiCodec none (.str x t) x) Q E s := by
  unfold encodeNarrow
  dsimp only
  rw [range_forIn]
  have hbs : (encBytes x).size = x.length := by
    unfold encBytes
    rw [← Array.foldl_toList, enc_size]
    simp [PySem.Str.length]
  refine wpAny_bind (wpAny_forIn_list _ (fun rest b s' => s' = s ∧ ((b = (0, #[], {}) ∧ rest.length = x.length) ∨ b = (x.length, encBytes x, {}))) (fun b s' => wpAny (model prog w) A (pure b.2.1) Q E s') ?_ ?_ _ _ ⟨rfl, .inl ⟨rfl, by simp⟩⟩)
  · rintro k rest b s' ⟨rfl, hb⟩
    rcases hb with ⟨rfl, hl⟩ | rfl
    · have h0 : 0 < x.cps.size := by
        show 0 < x.length
        rw [← hl]; simp
      dsimp only
      rw [if_neg (by rw [sizeLine_eq]; simp)]
      have hg : x.cps[0]? = some x.cps[0] := by simp [h0]
      have hlt : x.cps[0] < 128 := hx _ (Array.getElem_mem h0)
      rw [hg]
      dsimp only
      rw [if_pos (by rw [bad_iff]; simp; omega)]
      have he : x.cps.extract = x.cps := by simp
      have hf : Array.findIdx? asciiCodec.bad x.cps = none := by
        rw [Array.findIdx?_eq_none_iff]
        intro c hc
        rw [bad_iff]
        have := hx c hc
        simp; omega
      rw [he, hf]
      refine wpAny_pure ⟨rfl, .inr ?_⟩
      simp only [Option.getD_none, Nat.zero_add, Array.extract_size]
      rfl
    · dsimp only
      have hn : x.cps[x.length]? = none := by simp [PySem.Str.length]
      rw [if_neg (by rw [sizeLine_eq, hbs]; omega), hn]
      exact wpAny_pure (wpAny_pure h)
  · rintro b s' ⟨rfl, hb⟩
    rcases hb with ⟨rfl, hl⟩ | rfl
    · have he : x.cps = #[] := by
        apply Array.eq_empty_of_size_eq_zero
        show x.length = 0
        rw [← hl]; rfl
      have : encBytes x = #[] := by unfold encBytes; rw [he]; rfl
      exact wpAny_pure (this ▸ h)
    · exact wpAny_pure h

theorem narrow_bad {x : PySem.Str} {t : Tok} {Q : Array UInt8 → Shared → Prop} (hx : ¬ ∀ c ∈ x.cps, c < 128) (hs : x.length ≤ 10000) (hh : A.handled = none)
    (h : ∀ h' tk e, ExcIs s.heap h' e "UnicodeEncodeError" → E (.ref e) { s with heap := h', toks := tk }) :
    wpAny (model prog w) A (encodeNarrow "str.encode" asciiCodec none (.str x t) x) Q E s := by
  unfold encodeNarrow
  dsimp only
  rw [range_forIn]
  -- the first sign that is none of ASCII's
  have hf : ∃ j, Array.findIdx? asciiCodec.bad x.cps = some j := by
    cases hq : Array.findIdx? asciiCodec.bad x.cps with
    | some j => exact ⟨j, rfl⟩
    | none =>
      rw [Array.findIdx?_eq_none_iff] at hq
      refine absurd (fun c hc => ?_) hx
      have := hq c hc
      rw [bad_iff] at this
      simpa using this
  obtain ⟨j, hj⟩ := hf
  obtain ⟨hjl, hjb, hjm⟩ := Array.findIdx?_eq_some_iff_getElem.mp hj
  have hn : j < x.length := hjl
  obtain ⟨c, hc, hcb⟩ : ∃ c, x.cps[j]? = some c ∧ asciiCodec.bad c = true := ⟨x.cps[j], Array.getElem?_eq_getElem hjl, hjb⟩
  refine wpAny_bind (wpAny_forIn_list _ (fun rest b s' => s' = s ∧ ((b = (0, #[], {}) ∧ rest.length = x.length) ∨ (∃ bs, b = (j, bs, {}) ∧ bs.size ≤ 10000 ∧ rest ≠ []))) (fun b s' => wpAny (model prog w) A (pure b.2.1) Q E s') ?_ ?_ _ _ ⟨rfl, .inl ⟨rfl, by simp⟩⟩)
  · rintro k rest b s' ⟨rfl, hb⟩
    have hstop : ∀ i, i ≤ j → i + (Array.findIdx? (fun y => !asciiCodec.bad y) (x.cps.extract i)).getD (x.cps.size - i) < 2 ^ 62 := by
      intro i hij
      have hl : x.cps.size ≤ 10000 := hs
      cases hq : Array.findIdx? (fun y => !asciiCodec.bad y) (x.cps.extract i) with
      | none => simp only [Option.getD_none]; omega
      | some q =>
        obtain ⟨hql, _⟩ := Array.findIdx?_eq_some_iff_getElem.mp hq
        rw [Array.size_extract] at hql
        simp only [Option.getD_some]
        omega
    rcases hb with ⟨rfl, hl⟩ | ⟨bs, rfl, hbs, _⟩
    · dsimp only
      rw [if_neg (by rw [sizeLine_eq]; simp)]
      have h0 : 0 < x.cps.size := Nat.lt_of_le_of_lt (Nat.zero_le _) hjl
      obtain ⟨c0, hc0⟩ : ∃ c0, x.cps[0]? = some c0 := ⟨_, Array.getElem?_eq_getElem h0⟩
      rw [hc0]
      dsimp only
      cases hb0 : asciiCodec.bad c0 with
      | false =>
        rw [if_pos (by rfl)]
        have he : x.cps.extract = x.cps := by simp
        rw [he, hj]
        have hj0 : j ≠ 0 := fun q => by
          subst q
          rw [hc0] at hc
          cases hc
          rw [hb0] at hcb
          cases hcb
        refine wpAny_pure ⟨rfl, .inr ⟨Array.foldl (fun acc y => acc ++ (asciiCodec.bytesOf y).toArray) #[] (x.cps.extract 0 j), ?_, ?_, ?_⟩⟩
        · simp only [Option.getD_some, Nat.zero_add]
        · rw [← Array.foldl_toList, enc_size]
          have : x.cps.size ≤ 10000 := hs
          simp
          omega
        · intro q
          subst q
          have : x.length = 1 := by rw [← hl]; rfl
          omega
      | true =>
        rw [if_neg (by simp)]
        refine wpAny_bind (wpAny_rule ?_)
        simp only [strict_eq]
        split
        · rename_i heq
          cases (show (none : Option (Array UInt8)) = some _ from heq)
        · rw [if_pos (by decide)]
          exact wpAny_bind (raise_uee hh (by omega) (hstop _ (by omega)) h)
    · dsimp only
      rw [if_neg (by rw [sizeLine_eq]; omega), hc]
      dsimp only
      rw [if_neg (by rw [hcb]; simp)]
      refine wpAny_bind (wpAny_rule ?_)
      simp only [strict_eq]
      split
      · rename_i heq
        cases (show (none : Option (Array UInt8)) = some _ from heq)
      · rw [if_pos (by decide)]
        exact wpAny_bind (raise_uee hh (by omega) (hstop _ (by omega)) h)
  · rintro b s' ⟨rfl, hb⟩
    rcases hb with ⟨rfl, hl⟩ | ⟨bs, rfl, hbs, hr⟩
    · rw [← hl] at hn
      exact absurd hn (Nat.not_lt_zero _)
    · exact absurd rfl hr
end
end Mine

end
section
namespace Mine
open PySem PySem.W PySem.Spec PySem.Calls PyProof.Rows
open PySem.Builtin
section
variable {prog : Program} {w : World} {A : Around} {E : Value → Shared → Prop} {s : Shared}
open _codecs
theorem encBytes_eq (x : PySem.Str) : encBytes x = (x.cps.toList.map Nat.toUInt8).toArray := by
  unfold encBytes
  rw [← Array.foldl_toList]
  have : ∀ (l : List Nat) (acc : Array UInt8), l.foldl (fun acc y => acc ++ (asciiCodec.bytesOf y).toArray) acc = acc ++ (l.map Nat.toUInt8).toArray := by
    intro l
    induction l with
    | nil => intro acc; simp
    | cons c l ih =>
      intro acc
      rw [List.foldl_cons, ih]
      show acc ++ [c.toUInt8].toArray ++ _ = _
      simp
  rw [this]
  simp

theorem find_ascii {b : Array UInt8} {p : Nat} (h : (b.getD p 0).toNat < 128) : utf8Decoder.find true b p = .text [(b.getD p 0).toNat] (p + 1) := by
  have e : Bytes.utf8At b p = (.char (b.getD p 0).toNat, p + 1) := by
    unfold Bytes.utf8At
    exact if_pos h
  unfold utf8Decoder
  simp only [e]
  rfl

theorem forIn_steps {β : Type} (f : Nat → β → Sem (ForInStep β)) (g : Nat → β) (N : Nat) (hf : ∀ k p, p < N → f k (g p) = pure (.yield (g (p + 1)))) :
    ∀ n i, i + n ≤ N → ∀ j, forIn (List.range' j n) (g i) f = pure (g (i + n))
  | 0, i, _, j => by simp
  | n + 1, i, h, j => by
    rw [List.range'_succ, List.forIn_cons, hf j i (by omega), pure_bind]
    show forIn (List.range' (j + 1) n) (g (i + 1)) f = _
    rw [forIn_steps f g N hf n (i + 1) (by omega) (j + 1)]
    congr 2
    omega

theorem dec_loop (id : String) (b : Array UInt8) (hb : ∀ p, p < b.size → (b.getD p 0).toNat < 128) (hl : b.size ≤ 10000) :
    runDecoder id utf8Decoder none true b 0 [] = pure ((b.toList.map UInt8.toNat).toArray, b.size) := by
  unfold runDecoder
  dsimp only
  rw [range_forIn]
  refine (congrArg (fun z => z >>= fun r : Nat × Array Nat × Faults => pure (r.2.1, r.1)) (forIn_steps _ (fun p => ((p, ((b.toList.take p).map UInt8.toNat).toArray, {}) : Nat × Array Nat × Faults)) b.size ?_ b.size 0 (by omega) 0)).trans ?_
  rotate_left
  · rw [pure_bind]
    dsimp only
    rw [Nat.zero_add, ← Array.length_toList, List.take_length]
  · intro k p hp
    dsimp only
    have hs : (((b.toList.take p).map UInt8.toNat).toArray).size ≤ sizeLine := by
      rw [sizeLine_eq]; simp; omega
    rw [if_neg (by omega), if_neg (by omega), find_ascii (hb p hp)]
    dsimp only
    congr 3
    rw [List.take_add_one]
    simp [hp]

theorem enc_get {x : PySem.Str} (hx : ∀ c ∈ x.cps, c < 128) : ((encBytes x).toList.map UInt8.toNat).toArray = x.cps := by
  rw [encBytes_eq]
  apply Array.toList_inj.mp
  simp only [List.map_map]
  have : ∀ l : List Nat, (∀ c ∈ l, c < 128) → l.map (UInt8.toNat ∘ Nat.toUInt8) = l := by
    intro l hl
    conv => rhs; rw [← List.map_id l]
    refine List.map_congr_left fun c hc => ?_
    have := hl c hc
    show (Nat.toUInt8 c).toNat = c
    rw [Nat.toUInt8, UInt8.toNat_ofNat']
    omega
  exact this _ fun c hc => hx c (by simpa using hc)

theorem enc_len (x : PySem.Str) : (encBytes x).size = x.length := by
  rw [encBytes_eq]; simp [PySem.Str.length]

theorem enc_dec {x : PySem.Str} (hx : ∀ c ∈ x.cps, c < 128) (hs : x.length ≤ 10000) (id : String) : runDecoder id utf8Decoder none true (encBytes x) 0 [] = pure (x.cps, x.length) := by
  rw [dec_loop id _ ?_ (by rw [enc_len]; exact hs), enc_get hx, enc_len]
  intro p hp
  have h1 : (encBytes x).getD p 0 = (encBytes x)[p] := by simp [hp]
  rw [h1]
  have h2 : (encBytes x)[p].toNat ∈ x.cps := by
    rw [← enc_get hx]
    simp
    exact ⟨_, Array.getElem_mem hp, rfl⟩
  exact hx _ h2

theorem enc_cons {x : PySem.Str} (h0 : 0 < x.length) : ∃ c cs, encBytes x = (c :: cs).toArray := by
  rw [encBytes_eq]
  cases h : x.cps.toList.map Nat.toUInt8 with
  | nil =>
    have e : x.cps.toList = [] := List.map_eq_nil_iff.mp h
    have : x.length = 0 := by show x.cps.size = 0; rw [← Array.length_toList, e]; rfl
    omega
  | cons c cs => exact ⟨c, cs, rfl⟩

theorem encode_method {M : Model} {x : PySem.Str} {t : Tok} {pl : Sem Bool} {Q : Value × List Value → Shared → Prop} (h : Q (.builtin "str.encode", [.str x t]) s) : wpAny M A (getMethod (.str x t) "encode" pl) Q E s :=
  getMethod_builtin (typeIs_str _ _ _) F.plainAttrs_str F.slot_str_encode F.type_str_encode (fun _ e => nomatch e) h

theorem encode_call {x : PySem.Str} {t u : Tok} {Q : Value → Shared → Prop} (hh : A.handled = none) (hs : x.length ≤ 10000)
    (h : (∀ c ∈ x.cps, c < 128) → ∀ t' k, Q (.bytes (encBytes x) t') { s with toks := k })
    (h' : ¬ (∀ c ∈ x.cps, c < 128) → ∀ h' tk e, ExcIs s.heap h' e "UnicodeEncodeError" → E (.ref e) { s with heap := h', toks := tk }) :
    wpAny (model prog w) A (call (.builtin "str.encode") [.str x t, .str (PySem.Str.ofString "ASCII") u]) Q E s := by
  refine call_meets (S := fun A R s => A.handled = none ∧ ((∀ c ∈ x.cps, c < 128) → ∀ t' k, R (.ok (.ret (.bytes (encBytes x) t'))) { s with toks := k }) ∧
    (¬ (∀ c ∈ x.cps, c < 128) → ∀ h' tk e, ExcIs s.heap h' e "UnicodeEncodeError" → R (.error (.ref e)) { s with heap := h', toks := tk })) F.slot_str_encode (typeIs_str _ _ _) F.entry_str_encode (F.args_str_encode_2 _ _) ?_ ⟨hh, h, h'⟩
  refine .of_wp fun prog w A R s hS => ?_
  obtain ⟨hh, h1, h2⟩ := hS
  rw [enc_tree]
  refine wpAny_bind (wpAny_bind ?_)
  by_cases hx : ∀ c ∈ x.cps, c < 128
  · refine narrow_ok hx hs ?_
    unfold mkBytes
    rw [if_neg (by rw [enc_len, sizeLine_eq]; omega)]
    exact wpAny_bind (wpAny_fresh (wpAny_pure (wpAny_pure ⟨_, rfl, h1 hx _ _⟩)))
  · exact narrow_bad hx hs hh (h2 hx)
end
end Mine

end
section
namespace Mine
open PySem PySem.W PySem.Spec PySem.Calls PyProof.Rows

def Trk (B : Heap) (l : List Env) (e : Addr) (cls a0 a2 fl : Value) (h : Heap) : Prop :=
  B.StaysIn h ∧ B.get? e = none ∧ h.FunFrames B l ∧ ∃ oe vs T oT ts, h.get? e = some oe ∧ oe.cls = cls ∧ oe.data = .fields vs ∧ vs[0]? = some a0 ∧ vs[1]? = some (.ref T) ∧ vs[2]? = some a2 ∧
    B.get? T = none ∧ T ≠ e ∧ h.get? T = some oT ∧ oT.data = .fields ts ∧ ts[3]? = some fl

section
variable {M : Model} {A : Around} {E : Value → Shared → Prop} {s : Shared} {B : Heap} {env : Env} {outer l : List Env} {L e : Addr} {cls a0 a2 fl : Value} {Q : Unit → Shared → Prop}

theorem Trk.held {h : Heap} (x : Trk B l e cls a0 a2 (rawInt L) h) : Heap.HeldW B l e cls a0 L h := by
  obtain ⟨k1, k2, k3, oe, vs, T, oT, ts, he, hc, hd, h0, h1, _, hT0, hTe, hT, hdT, h3⟩ := x
  exact ⟨k1, k2, k3, oe, vs, T, oT, ts, he, ⟨hc, h0⟩, hd, h1, hT0, hTe, hT, hdT, h3⟩
theorem Trk.there {h : Heap} (x : Trk B l e cls a0 a2 fl h) : ∃ ob, h.get? e = some ob ∧ ob.cls = cls := by
  obtain ⟨_, _, _, oe, _, _, _, _, he, hc, _⟩ := x
  exact ⟨oe, he, hc⟩

theorem trk_note {oe : Obj} {vs : Array Value} (hfr : A.frames = some (env :: outer)) (hl : s.heap.FunFrames B (env :: outer)) (hf : env.frame = some L)
    (he : s.heap.get? e = some oe) (hkb : B.StaysIn s.heap) (hen : B.get? e = none) (hcls : oe.cls = cls) (hd : oe.data = .fields vs) (h0 : vs[0]? = some a0) (h1 : vs[1]? = some .none) (h2 : vs[2]? = some a2)
    (h : ∀ h', Trk B (env :: outer) e cls a0 a2 (rawInt L) h' → s.heap.UpToSlots h' → Q () { s with heap := h' }) : wpAny M A (noteFrame (.ref e) env) Q E s := by
  have hsz : 1 < vs.size := (Array.getElem?_eq_some_iff.mp h1).1
  have hene : e ∉ (env :: outer).filterMap (·.frame) := fun hm => by
    obtain ⟨_, o, ho, hnf⟩ := hl.mem hm
    rw [he] at ho; injection ho with ho; subst ho; exact hnf vs hd
  unfold noteFrame
  simp only [hf]
  refine wpAny_bind (wpAny_field he hd h1 ?_)
  rw [if_neg (by decide)]
  refine wpAny_bind (wpAny_frameOf_fun hfr hl hf fun h₁ hs₁ => ?_)
  refine wpAny_bind (wpAny_entryPlaceOf fun pl hpl => ?_)
  unfold EntryCells.newEntry newFields
  refine wpAny_bind (wpAny_newObj_type ?_ (hpl.sizeOk5 _ _ _ _ _))
  have he₁ : h₁.get? e = some oe := (hs₁.2.1 e hene).trans he
  have kb₁ : B.StaysIn h₁ := fun b o hbo => (hs₁.2.1 b fun hm => by rw [(hl.mem hm).1] at hbo; cases hbo).trans (hkb b o hbo)
  have he₂ := Heap.get?_push_of_some (h := h₁) { cls := .type "traceback", dict := none, data := .fields ([Value.none, .ref L, .none, rawInt L, .none] ++ (if pl.isEmpty then List.replicate 6 Value.none else pl)).toArray } he₁
  refine wpAny_setField he₂ hd hsz (h _ ?_ ?_)
  all_goals
    have hTe : h₁.objs.size ≠ e := Nat.ne_of_gt (Heap.lt_size he₁)
    have keep : ∀ b o, b ≠ e → h₁.get? b = some o →
        ((h₁.push { cls := .type "traceback", dict := none, data := .fields ([Value.none, .ref L, .none, rawInt L, .none] ++ (if pl.isEmpty then List.replicate 6 Value.none else pl)).toArray }).update e (Obj.mapFields (·.setIfInBounds 1 (Value.ref h₁.objs.size)))).get? b = some o :=
      fun b o hbe hb => by
        rw [Heap.get?_update_other _ _ (Ne.symm hbe)]
        exact Heap.get?_push_of_some _ hb
    have noRecord : ∀ b o, s.heap.get? b = some o → (∀ vs, o.data ≠ .fields vs) → b ≠ e := fun b o hb hnf q => by
      rw [q, he] at hb; injection hb with hb; subst hb; exact hnf vs hd
  · have hd₃ := Obj.data_mapFields hd (·.setIfInBounds 1 (Value.ref h₁.objs.size))
    have he₃ := Heap.get?_update_self (Obj.mapFields (·.setIfInBounds 1 (Value.ref h₁.objs.size))) he₂ (Obj.isFreed_of_fields hd₃)
    have hT₃ := (Heap.get?_update_other (h₁.push { cls := .type "traceback", dict := none, data := .fields ([Value.none, .ref L, .none, rawInt L, .none] ++ (if pl.isEmpty then List.replicate 6 Value.none else pl)).toArray })
      (Obj.mapFields (·.setIfInBounds 1 (Value.ref h₁.objs.size))) (Ne.symm hTe)).trans (Heap.get?_push_size h₁ rfl)
    refine ⟨fun b o hbo => keep b o (fun q => by rw [q, hen] at hbo; cases hbo) (kb₁ b o hbo), hen, hl.of_keeps fun b o hb hnf => ?_, _, _, h₁.objs.size, _, _, he₃, (Obj.cls_mapFields _ _).trans hcls, hd₃,
      by rw [Array.getElem?_setIfInBounds_ne (by decide)]; exact h0, by simp [hsz], by rw [Array.getElem?_setIfInBounds_ne (by decide)]; exact h2, kb₁.fresh, hTe, hT₃, rfl, by first | (simp; done) | (rcases hpl with rfl | ⟨_, _, _, _, _, _, _, rfl⟩ <;> simp)⟩
    obtain ⟨sl, hs⟩ := hs₁.2.2 b o hb
    exact ⟨_, keep b _ (noRecord b o hb hnf) hs, rfl⟩
  · intro b o hb hnf
    obtain ⟨sl, hs⟩ := hs₁.2.2 b o hb
    exact ⟨sl, keep b _ (noRecord b o hb hnf) hs⟩

theorem trk_fly (x : Trk B l e cls a0 a2 fl s.heap) (h : ∀ h', Trk B l e cls a0 a2 .none h' → s.heap.UpToSlots h' → Q () { s with heap := h' }) : wpAny M A (setFlight (.ref e) none) Q E s := by
  obtain ⟨k1, k2, k3, oe, vs, T, oT, ts, he, hc, hd, h0, h1, h2, hT0, hTe, hT, hdT, h3⟩ := x
  have hsz3 : 3 < ts.size := (Array.getElem?_eq_some_iff.mp h3).1
  refine wpAny_setFlight_none he hd h1 hT hdT hsz3 ?_
  have other : ∀ b, b ≠ T → (s.heap.update T (Obj.mapFields (·.setIfInBounds 3 .none))).get? b = s.heap.get? b := fun b hb => Heap.get?_update_other _ _ (Ne.symm hb)
  have noRecord : ∀ b o, s.heap.get? b = some o → (∀ vs, o.data ≠ .fields vs) → b ≠ T := fun b o hb hnf q => by
    rw [q, hT] at hb; injection hb with hb; subst hb; exact hnf ts hdT
  refine h _ ⟨fun b o hbo => (other b fun q => by rw [q, hT0] at hbo; cases hbo).trans (k1 b o hbo), k2, k3.of_keeps fun b o hb hnf => ⟨o, (other b (noRecord b o hb hnf)).trans hb, rfl⟩,
    oe, vs, T, _, _, (other e (Ne.symm hTe)).trans he, hc, hd, h0, h1, h2, hT0, hTe, Heap.get?_update_self _ hT (Obj.isFreed_of_fields (Obj.data_mapFields hdT _)), Obj.data_mapFields hdT _, by simp [hsz3]⟩ ?_
  exact fun b o hb hnf => ⟨o.slots, (other b (noRecord b o hb hnf)).trans hb⟩
end
end Mine

end
section
namespace Mine
open PySem PySem.W PySem.Spec PySem.Calls PyProof.Rows
theorem entry_unchain : entryFor table "proto.unchain" = some Builtin.«proto.unchain» := entryFor_of_tree (by kernel_rfl)

section
variable {prog : Program} {w : World} {A : Around} {E : Value → Shared → Prop} {s : Shared} {env : Env} {e1 : Addr}

theorem raiseNew_some {α : Type} {e : Addr} {o1 oe : Obj} {vs1 vse : Array Value} {Q : α → Shared → Prop} (hh : A.handled = some (.ref e1)) (hne : e1 ≠ e) (h1 : s.heap.get? e1 = some o1) (hd1 : o1.data = .fields vs1) (h12 : vs1[2]? = some .none)
    (he : s.heap.get? e = some oe) (hde : oe.data = .fields vse) (hsz : 2 < vse.size)
    (h : E (.ref e) { s with heap := s.heap.update e (Obj.mapFields (·.setIfInBounds 2 (.ref e1))) }) : wpAny (model prog w) A (raiseNew (.ref e) : Sem α) Q E s := by
  unfold raiseNew
  refine wpAny_bind (wpAny_handled ?_)
  rw [hh]
  dsimp only
  rw [if_pos (by simpa using hne)]
  refine wpAny_bind (wpAny_holding (wpAny_runValue (codeAny_builtin entry_unchain ?_)))
  unfold Builtin.«proto.unchain»
  dsimp only
  refine wpAny_bind (wpAny_field h1 hd1 h12 ?_)
  rw [if_pos (by rfl)]
  refine wpAny_bind (wpAny_pure (wpAny_pure ?_))
  refine wpAny_bind ?_
  show wpAny _ A (setField (.ref e) 2 (.ref e1)) _ _ _
  exact wpAny_setField he hde hsz (wpAny_throw h)

theorem raiseStmt_in {cls : String} (F : ExcRaiseFacts cls) {x : Sem Value} {Q : Flow → Shared → Prop} (hh : A.handled = some (.ref e1))
    (h : wpAny (model prog w) A x (fun v s₁ => ∃ e t, v = .ref e ∧ s₁.heap.get? e = some { cls := .type cls, data := .fields #[.ref t, .none, .none, .none, .bool false, .none] } ∧ e1 ≠ e ∧
      (∃ o1 vs1, s₁.heap.get? e1 = some o1 ∧ o1.data = .fields vs1 ∧ vs1[2]? = some .none) ∧ E (.ref e) { s₁ with heap := s₁.heap.update e (Obj.mapFields (·.setIfInBounds 2 (.ref e1))) }) E s) :
    wpAny (model prog w) A (raiseStmt env (some x) none) Q E s := by
  unfold raiseStmt
  refine wpAny_bind (wpAny_mono h (fun v s₁ h₁ => ?_) fun _ _ x => x)
  obtain ⟨e, t, rfl, he, hne, ⟨o1, vs1, h1, hd1, h12⟩, hE⟩ := h₁
  obtain ⟨hp, g, d, tk, os⟩ := s₁
  have hsub := F.isExc
  have hmeta := F.plainMeta
  repeat (first | refine wpAny_loadPart he ?_ | wp_step)
  exact raiseNew_some hh hne h1 hd1 h12 he rfl (by show 2 < 6; decide) hE

theorem Raise_in {cls newId initId : String} (F : ExcCallFacts cls newId initId) (G : ExcRaiseFacts cls) {x : Str} {np cpos pos : Pos} {args : List Expr} {Q : Flow → Shared → Prop}
    (hh : A.handled = some (.ref e1)) (hplain : (backTo cpos (starEach args env)).any (·.1) = false)
    (h : wpAny (model prog w) A (eval (.Name x np) env) (fun f s₁ => f = .type cls ∧ wpAny (model prog w) A (evalArgs (.type cls) true (backTo cpos (starEach args env)) [])
      (fun a s₂ => a.kw = [] ∧ a.pos.length ≤ sizeLine ∧ (∃ o1 vs1, s₂.heap.get? e1 = some o1 ∧ o1.data = .fields vs1 ∧ vs1[2]? = some .none) ∧
        ∀ h' e, Heap.MadeExc s₂.heap h' e cls a.pos → E (.ref e) { s₂ with heap := h'.update e (Obj.mapFields (·.setIfInBounds 2 (.ref e1))) }) E s₁) E s) :
    wpAny (model prog w) A (exec (.Raise (some (.Call (.Name x np) args [] cpos)) none pos) env) Q E s := by
  have main : wpAny (model prog w) A (eval (.Call (.Name x np) args [] cpos) env) (fun v s₁ => ∃ e t, v = .ref e ∧ s₁.heap.get? e = some { cls := .type cls, data := .fields #[.ref t, .none, .none, .none, .bool false, .none] } ∧ e1 ≠ e ∧
      (∃ o1 vs1, s₁.heap.get? e1 = some o1 ∧ o1.data = .fields vs1 ∧ vs1[2]? = some .none) ∧ E (.ref e) { s₁ with heap := s₁.heap.update e (Obj.mapFields (·.setIfInBounds 2 (.ref e1))) }) E s := by
    refine wpAny_Call_ofName (wpAny_mono h (fun f s₁ h₁ => ?_) fun _ _ x => x)
    obtain ⟨rfl, h₁⟩ := h₁
    refine callWith_excType hplain (wpAny_mono h₁ (fun a s₂ h₂ => ?_) fun _ _ x => x)
    obtain ⟨apos, akw⟩ := a
    obtain ⟨hkw, hlen, ⟨o1, vs1, h1, hd1, h12⟩, h₂⟩ := h₂
    obtain rfl : akw = [] := hkw
    obtain ⟨hp, g, d, tk, os⟩ := s₂
    refine wpAny_call_exc F (hrest := hlen) fun h' e hm => ?_
    obtain ⟨t, ht, _, _⟩ := hm.there
    refine ⟨e, t, rfl, ht, fun q => ?_, ⟨o1, vs1, hm.keeps _ _ h1, hd1, h12⟩, h₂ h' e hm⟩
    have := hm.new
    rw [← q] at this
    have h1' : hp.get? e1 = some o1 := h1
    rw [this] at h1'
    cases h1'
  rw [arm_exec_Raise]
  show wpAny (model prog w) A (do standAt pos; raiseStmt env (some (do let v ← eval (.Call (.Name x np) args [] cpos) env; standAt pos; pure v)) none) Q E s
  exact wpAny_bind (wpAny_standAt (raiseStmt_in G hh (wpAny_bind (wpAny_mono main (fun v s₁ h₁ => wpAny_bind (wpAny_standAt (wpAny_pure h₁))) fun _ _ x => x))))
end
end Mine

end
section
namespace Mine
open PySem PySem.W PySem.Spec PySem.Calls PyProof.Rows
theorem primed9 : PySem.Challenge.rw_kn0058_01 = PySem.Challenge.rw_kn0058_01 ∧ hd.heap_39 = hd.heap_39 := by
  w_top off
  k_fill
  exact ⟨rfl, rfl⟩

section
variable {prog : Program} {w : World} {A : Around} {E : Value → Shared → Prop} {s : Shared} {env : Env} {e1 : Addr}
def RaiseEnd (e1 : Addr) (cls : String) (E : Value → Shared → Prop) (vs : List Value) (s₂ : Shared) : Prop :=
  vs.length ≤ sizeLine ∧ (∃ o1 vs1, s₂.heap.get? e1 = some o1 ∧ o1.data = .fields vs1 ∧ vs1[2]? = some .none) ∧
    ∀ h' e, Heap.MadeExc s₂.heap h' e cls vs → E (.ref e) { s₂ with heap := h'.update e (Obj.mapFields (·.setIfInBounds 2 (.ref e1))) }
theorem Raise_inB {cls newId initId : String} (FC : ExcCallFacts cls newId initId) (FR : ExcRaiseFacts cls) {x : PySem.Str} {np cpos pos : Pos} {e₀ : Expr} {rest : List Expr} {Q : Flow → Shared → Prop} (hh : A.handled = some (.ref e1))
    (h : wpAny (model prog w) A (eval (.Name x np) env) (fun f s₁ => f = .type cls ∧ wpAny (model prog w) A (spliced (backTo cpos (starEach (e₀ :: rest) env)))
      (fun vs s₂ => RaiseEnd e1 cls E vs s₂) E s₁) E s)
    (he : starEach (e₀ :: rest) env = (false, eval e₀ env) :: starEach rest env := by rfl) (hplain : (backTo cpos (starEach rest env)).any (·.1) = false := by rfl) :
    wpAny (model prog w) A (exec (.Raise (some (.Call (.Name x np) (e₀ :: rest) [] cpos)) none pos) env) Q E s := by
  refine Raise_in FC FR hh (by rw [he]; show (false || (backTo cpos (starEach rest env)).any (·.1)) = false; rw [hplain]; rfl) (wpAny_mono h (fun f s₁ h₁ => ⟨h₁.1, ?_⟩) fun _ _ y => y)
  have h₂ := h₁.2
  rw [he] at h₂ ⊢
  exact Calls.evalArgs_plain (wpAny_mono h₂ (fun vs s₂ h₃ => ⟨rfl, h₃⟩) fun _ _ y => y)
end

def msgOf (x : PySem.Str) : PySem.Str := PySem.Str.ofString "URL " ++ reprText x ++ PySem.Str.ofString " contains non-ASCII characters"


abbrev scT : Scope := { kind := ScopeKind.function, names := [(PySem.Str.ofString "url", NameKind.local), (PySem.Str.ofString "isinstance", NameKind.globalImplicit), (PySem.Str.ofString "str", NameKind.globalImplicit), (PySem.Str.ofString "UnicodeError", NameKind.globalImplicit), (PySem.Str.ofString "repr", NameKind.globalImplicit)], isGenerator := false, isCoroutine := false }
abbrev envT (L : Addr) : Env := envOf (PySem.Str.ofString "_to_bytes") scT L 21 (Value.ref 20)

section
variable {w : World} {A : Around} {E : Value → Shared → Prop} {s : Shared} {e1 : Addr} {B : Heap} {L a : Addr} {m : PySem.Str → Option Value}
  {mean : ExcName → Option Value} {mg mb : PySem.Str → Option Value} {x : PySem.Str} {t : Tok} {p1 p2 p3 p4 p5 p6 p7 p8 p9 p10 : Pos} {Q : Flow → Shared → Prop}
theorem suite_raise (hh : A.handled = some (.ref e1)) (F : Fr B L s.heap m) (N : News B L s.heap []) (X : (hd.heap_39 w.params).In B) (T : Top hd.view_39 (looseW hd.view_39 []) mean mg mb B) (hx : m (PySem.Str.ofString "url") = some (.str x t)) (hs : (reprText x).length ≤ 100000)
    (h1 : ∃ o1 vs1, s.heap.get? e1 = some o1 ∧ o1.data = .fields vs1 ∧ vs1[2]? = some .none)
    (hE : ∀ h' e tm tk, Heap.MadeExc s.heap h' e "UnicodeError" [.str (msgOf x) tm] → E (.ref e) { s with heap := h'.update e (Obj.mapFields (·.setIfInBounds 2 (.ref e1))), toks := tk }) :
    wpAny (model PySem.Challenge.rw_kn0058_01.row.toRowW.prog w) A (exec (.Raise (some (.Call (.Name (PySem.Str.ofString "UnicodeError") p1)
      [.BinOp (.BinOp (.Constant (.str (PySem.Str.ofString "URL ")) 0 p2) .Add (.Call (.Name (PySem.Str.ofString "repr") p3) [.Name (PySem.Str.ofString "url") p4] [] p5) p6) .Add (.Constant (.str (PySem.Str.ofString " contains non-ASCII characters")) 0 p7) p8] [] p9)) none p10) (envT L)) Q E s := by
  have hm : m = fun y => if y = PySem.Str.ofString "url" then some (.str x t) else m y := by
    funext y
    by_cases hy : y = PySem.Str.ofString "url"
    · rw [if_pos hy, hy, hx]
    · rw [if_neg hy]
  rw [hm] at F
  clear hm hx
  refine Raise_inB ucall uraise hh ?_
  k_steps
  exact ⟨by rw [sizeLine_eq]; show 1 ≤ _; omega, h1, fun h' e hm => hE h' e _ _ hm⟩
end
end Mine

end
section
namespace Mine
open PySem PySem.W PySem.Spec PySem.Calls PyProof.Rows
theorem primed10 : PySem.Challenge.rw_kn0058_01 = PySem.Challenge.rw_kn0058_01 ∧ hd.heap_39 = hd.heap_39 := by
  w_top off
  k_fill
  exact ⟨rfl, rfl⟩

section
variable {M : Model} {A : Around} {E : Value → Shared → Prop} {s : Shared} {B : Heap} {env : Env} {outer l : List Env} {L e : Addr} {cls a0 a2 fl : Value}
theorem trk_land {Q : Unit → Shared → Prop} (x : Trk B l e cls a0 a2 fl s.heap) (h : ∀ h', Trk B l e cls a0 a2 (rawInt L) h' → s.heap.UpToSlots h' → Q () { s with heap := h' }) : wpAny M A (setFlight (.ref e) (some L)) Q E s := by
  obtain ⟨k1, k2, k3, oe, vs, T, oT, ts, he, hc, hd, h0, h1, h2, hT0, hTe, hT, hdT, h3⟩ := x
  have hsz3 : 3 < ts.size := (Array.getElem?_eq_some_iff.mp h3).1
  unfold setFlight
  refine wpAny_bind (wpAny_field he hd h1 ?_)
  rw [if_pos (show (Value.ref T != Value.none) = true from by simp)]
  have other : ∀ b, b ≠ T → (s.heap.update T (Obj.mapFields (·.setIfInBounds 3 ((some L : Option Addr).elim Value.none fun f => rawInt f)))).get? b = s.heap.get? b := fun b hb => Heap.get?_update_other _ _ (Ne.symm hb)
  have noRecord : ∀ b o, s.heap.get? b = some o → (∀ vs, o.data ≠ .fields vs) → b ≠ T := fun b o hb hnf q => by
    rw [q, hT] at hb; injection hb with hb; subst hb; exact hnf ts hdT
  refine wpAny_setField hT hdT hsz3 (h _ ⟨fun b o hbo => (other b fun q => by rw [q, hT0] at hbo; cases hbo).trans (k1 b o hbo), k2, k3.of_keeps fun b o hb hnf => ⟨o, (other b (noRecord b o hb hnf)).trans hb, rfl⟩,
    oe, vs, T, _, _, (other e (Ne.symm hTe)).trans he, hc, hd, h0, h1, h2, hT0, hTe, Heap.get?_update_self _ hT (Obj.isFreed_of_fields (Obj.data_mapFields hdT _)), Obj.data_mapFields hdT _, by simp [hsz3]⟩ ?_)
  exact fun b o hb hnf => ⟨o.slots, (other b (noRecord b o hb hnf)).trans hb⟩

theorem trk_back (hf : env.frame = some L) (x : Trk B l e cls a0 a2 fl s.heap) (h : ∀ h', Trk B l e cls a0 a2 (rawInt L) h' → s.heap.UpToSlots h' → E (.ref e) { s with heap := h' }) : cameBackBy M A env E (.ref e) s := by
  have x' := x
  obtain ⟨k1, k2, k3, oe, vs, T, oT, ts, he, hc, hd, h0, h1, h2, hT0, hTe, hT, hdT, h3⟩ := x'
  unfold cameBackBy
  refine wpAny_bind (wpAny_field he hd h1 ?_)
  rw [if_neg (by simp)]
  rw [hf]
  exact trk_land x h
end

section
variable {w : World} {A1 : Around} {E : Value → Shared → Prop} {s' : Shared} {e : Addr} {B h : Heap} {L : Addr} {m : PySem.Str → Option Value} {outer : List Env}
  {mean : ExcName → Option Value} {mg mb : PySem.Str → Option Value} {x : PySem.Str} {t : Tok} {p0 p1 p2 p3 p4 p5 p6 p7 p8 p9 p10 ph : Pos} {Q : Flow → Shared → Prop}

theorem up_fr (k : B.StaysIn h) (hns : h.Ns L m) (hsz : B.objs.size ≤ L) : Fr B L h m := ⟨hns, k, hsz⟩

theorem caught_uee (hfr : A1.frames = some outer) (hfun : h.FunFrames B (envT L :: outer)) (hB : B.StaysIn h) (hsz : B.objs.size ≤ L) (hns : h.Ns L m) (hx : m (PySem.Str.ofString "url") = some (.str x t))
    (X : (hd.heap_39 w.params).In B) (T : Top hd.view_39 (looseW hd.view_39 []) mean mg mb B) (hs : (reprText x).length ≤ 100000) (hex : ExcIs h s'.heap e "UnicodeEncodeError")
    (hE : ∀ e2 tup tm h' tk, Heap.HeldW B (envT L :: outer) e2 (.type "UnicodeError") (.ref tup) L h' → h'.TupAt tup [.str (msgOf x) tm] → B.get? tup = none → h.UpToSlots h' → E (.ref e2) { s' with heap := h', toks := tk }) :
    wpAny (model PySem.Challenge.rw_kn0058_01.row.toRowW.prog w) (A1.deeper (envT L)) (noteFrame (.ref e) (envT L)) (fun _ s₂ => wpAny (model PySem.Challenge.rw_kn0058_01.row.toRowW.prog w) (A1.deeper (envT L)) (setFlight (.ref e) none) (fun _ s₃ =>
      wpAny (model PySem.Challenge.rw_kn0058_01.row.toRowW.prog w) (A1.deeper (envT L)) (handleBy (.ref e) (envT L) [.ExceptHandler (some (.Name (PySem.Str.ofString "UnicodeError") p0)) none
        [.Raise (some (.Call (.Name (PySem.Str.ofString "UnicodeError") p1)
          [.BinOp (.BinOp (.Constant (.str (PySem.Str.ofString "URL ")) 0 p2) .Add (.Call (.Name (PySem.Str.ofString "repr") p3) [.Name (PySem.Str.ofString "url") p4] [] p5) p6) .Add (.Constant (.str (PySem.Str.ofString " contains non-ASCII characters")) 0 p7) p8] [] p9)) none p10] ph]) Q E s₃) E s₂) E s' := by
  obtain ⟨kp, hnew, oe, vs, a0, he, hcls, hd, h0, h1, h2⟩ := hex
  have hen : B.get? e = none := by
    cases hq : B.get? e with
    | none => rfl
    | some o => have := hB e o hq; rw [hnew] at this; cases this
  have hfr' : (A1.deeper (envT L)).frames = some (envT L :: outer) := Around.frames_deeper hfr
  refine trk_note hfr' (hfun.of_keeps fun b o hb _ => ⟨o, kp b o hb, rfl⟩) rfl he (fun b o hb => kp b o (hB b o hb)) hen hcls hd h0 h1 h2 fun h₁ K₁ U₁ => ?_
  refine trk_fly K₁ fun h₂ K₂ U₂ => ?_
  have V₂ : h.UpToSlots h₂ := ((Heap.UpToSlots.of_keeps kp).trans U₁).trans U₂
  refine wpAny_handleBy_builtin (X := "UnicodeEncodeError") (T := "UnicodeError") (b := true) u_exc u_nt e_sub ?_
  have F₂ : Fr B L h₂ m := up_fr K₂.1 (V₂.ns hns) hsz
  refine nameX_B (cl := []) F₂ X (topRead_of T) (by k_is) Boot.UnicodeError (by decide) ⟨rfl, ?_, ?_⟩
  · obtain ⟨ob, hob, hc⟩ := K₂.there
    exact ⟨ob, hob, hc⟩
  simp only [if_true]
  refine trk_fly K₂ fun h₃ K₃ U₃ => ?_
  have V₃ := V₂.trans U₃
  have F₃ : Fr B L h₃ m := up_fr K₃.1 (V₃.ns hns) hsz
  refine wpAny_execs_cons ?_
  refine suite_raise (e1 := e) (by rfl) F₃ News.nil X T hx hs ?_ fun h₄ e2 tm tk hm => ?_
  · obtain ⟨_, _, _, oe, vs, _, _, _, he, _, hd, _, _, h2, _⟩ := K₃
    exact ⟨oe, vs, he, hd, h2⟩
  -- the second exception is noted, comes back, and is handed on
  obtain ⟨tup, ht2, htn, htu⟩ := hm.there
  have hn2 : B.get? e2 = none := by
    cases hq : B.get? e2 with
    | none => rfl
    | some o => have := K₃.1 e2 o hq; have := hm.new; simp_all
  have keep4 : ∀ b o, h₃.get? b = some o → (h₄.update e2 (Obj.mapFields (·.setIfInBounds 2 (.ref e)))).get? b = some o := fun b o hb => by
    rw [Heap.get?_update_other _ _ (fun q => by rw [← q] at hb; have := hm.new; rw [hb] at this; cases this)]
    exact hm.keeps b o hb
  have he2 : (h₄.update e2 (Obj.mapFields (·.setIfInBounds 2 (.ref e)))).get? e2 = some { cls := .type "UnicodeError", data := .fields #[.ref tup, .none, .ref e, .none, .bool false, .none] } := Heap.get?_update_self _ ht2 rfl
  have hTe2 : tup ≠ e2 := fun q => by rw [q, ht2] at htu; have := congrArg Obj.cls (Option.some.inj htu); simp at this
  have htu' : (h₄.update e2 (Obj.mapFields (·.setIfInBounds 2 (.ref e)))).TupAt tup [.str (msgOf x) tm] := ⟨_, _, (Heap.get?_update_other _ _ (Ne.symm hTe2)).trans htu, rfl, rfl⟩
  show wpAny _ _ (noteFrame (.ref e2) (envT L)) _ _ _
  refine trk_note (A := (A1.deeper (envT L)).mark (some (.ref e))) hfr' (K₃.2.2.1.of_keeps fun b o hb _ => ⟨o, keep4 b o hb, rfl⟩) rfl he2 (fun b o hb => keep4 b o (K₃.1 b o hb)) hn2 rfl rfl rfl rfl rfl fun h₅ K₅ U₅ => ?_
  refine trk_back rfl K₅ fun h₆ K₆ U₆ => ?_
  have htB : B.get? tup = none := by
    cases hq : B.get? tup with
    | none => rfl
    | some o => have := K₃.1 tup o hq; rw [htn] at this; cases this
  exact hE e2 tup tm h₆ _ K₆.held (htu'.of_slots (U₅.trans U₆)) htB (((V₃.trans (Heap.UpToSlots.of_keeps keep4)).trans U₅).trans U₆)
end
end Mine

end
section
namespace Mine
open PySem PySem.W PySem.Spec PySem.Calls PyProof.Rows
theorem primed11 : PySem.Challenge.rw_kn0058_01 = PySem.Challenge.rw_kn0058_01 ∧ hd.heap_39 = hd.heap_39 := by
  w_top off
  k_fill
  exact ⟨rfl, rfl⟩

theorem code_plain {prog : Program} {w : World} {A : Around} {s : Shared} {B : Heap} {K : Frag} {R : Result → Shared → Prop} {name qual : PySem.Str} {params : Arguments} {body : List Stmt} {scope : Scope} {dV kV doc pm cdv ct oc : Value} {an od : Option Addr} {osl : Array (Option Value)} {f : Addr} {args : Args} {binds : List (PySem.Str × Value)}
    (hB : B.StaysIn s.heap) (X : K.In B) (hlim : B.NoLimit)
    (ho : K.lookup f = some ⟨oc, od, .func (fnOf name qual params body scope dV kV doc pm an cdv ct), osl⟩) (hcd : codeIn K cdv qual = true) (hroom : A.depth < recursionLimit)
    (hbind : BindsTo s (fnOf name qual params body scope dV kV doc pm an cdv ct) args binds) (hloc : ∀ y ∈ binds, scope.names.lookup y.1 = some .local)
    (h : ∀ h₁, Fr s.heap s.heap.objs.size h₁ (fun y => binds.reverse.lookup y) → News s.heap s.heap.objs.size h₁ [] →
      wpAny (model prog w) (A.deeper (envOf qual scope s.heap.objs.size f cdv)) (execs body (envOf qual scope s.heap.objs.size f cdv))
        (fun fl s' => R (.ok (.ret (match fl with | .ret v => v | _ => .none))) s')
        (fun e s' => wpAny (model prog w) (A.deeper (envOf qual scope s.heap.objs.size f cdv)) (leaving (envOf qual scope s.heap.objs.size f cdv) e) (fun _ s'' => R (.error e) s'') (fun e' s'' => R (.error e') s'') s')
        { s with heap := h₁, toks := s.toks + binds.length })
    (hco : scope.isCoroutine = false := by rfl) (hgen : scope.isGenerator = false := by rfl) (hk : scope.kind = .function := by rfl)
    (hcell : ∀ x ∈ scope.names, x.2 ≠ .cell := by decide) : codeAny (model prog w) A (.call (.ref f) args) R s := by
  refine codeAny_call_def (fd := fnOf name qual params body scope dV kV doc pm an cdv ct) (body := body) (binds := binds) hroom (hB _ _ (X _ _ ho)) rfl (hlim.keeps hB) (codeRec_of (fun a o e => hB _ _ (X a o e)) hcd) rfl hbind hcell hloc (fun h₁ hns hk₁ => ?_) hco hgen hk
  exact h h₁ ⟨hns, hk₁, Nat.le_refl _⟩ News.nil

theorem decode_call {prog : Program} {w : World} {A : Around} {E : Value → Shared → Prop} {s : Shared} {x : PySem.Str} {t : Tok} {Q : Value → Shared → Prop} (hx : ∀ c ∈ x.cps, c < 128) (h0 : 0 < x.length) (hs : x.length ≤ 10000) (h : ∀ t' k, Q (.str x t') { s with toks := k }) :
    wpAny (model prog w) A (call (.builtin "bytes.decode") [.bytes (encBytes x) t]) Q E s := by
  obtain ⟨c, cs, e⟩ := enc_cons h0
  have hd : ∀ id, Builtin._codecs.runDecoder id Builtin._codecs.utf8Decoder none true (c :: cs).toArray 0 [] = pure (x.cps, x.length) := fun id => by rw [← e]; exact enc_dec hx hs id
  rw [e]
  exact KBd.decode hd (by omega) h

theorem leaves_heldU {M : Model} {A : Around} {E : Value → Shared → Prop} {s : Shared} {base : Heap} {env : Env} {outer : List Env} {L e : Addr} {cls a0 : Value} {Q : Unit → Shared → Prop} (hf : env.frame = some L)
    (hh : Heap.HeldW base (env :: outer) e cls a0 L s.heap) (hQ : ∀ h', Heap.FlyingW base outer e cls a0 h' → s.heap.UpToSlots h' → Q () { s with heap := h' }) : wpAny M A (leaving env (.ref e)) Q E s := by
  unfold leaving
  refine wpAny_bind (wpAny_noteFrame_againW hf hh.2.2.2 ?_)
  refine wpAny_landsW hh fun h' hfl up => ?_
  obtain ⟨k1, k2, ⟨_, _, k3⟩, k4⟩ := hfl
  exact hQ h' ⟨k1, k2, k3, k4⟩ up

section
variable {w : World} {A : Around} {s : Shared} {R : Result → Shared → Prop} {x : PySem.Str} {t : Tok} {B : Heap} {outer : List Env} {mean : ExcName → Option Value} {mg mb : PySem.Str → Option Value}
local macro_rules | `(tactic| walk_at "getMethod str") => `(tactic| (k_here; with_reducible refine encode_method ?_))
local macro_rules | `(tactic| walk_at "call builtin:str.encode") => `(tactic| (k_here; k_dflt (refine encode_call (by assumption) (by assumption) ?_ ?_); intros))
local macro_rules | `(tactic| walk_at "call builtin:bytes.decode") => `(tactic| (k_here; k_dflt (refine decode_call (by assumption) (by assumption) (by assumption) ?_); intros))

theorem to_bytes (hh : A.handled = none) (hA : A.frames = some outer) (hroom : A.depth < recursionLimit) (hfun : s.heap.FunFrames B outer) (hB : B.StaysIn s.heap) (hsz : B.objs.size ≤ s.heap.objs.size)
    (X₀ : (hd.heap_39 w.params).In B) (T₀ : Top hd.view_39 (looseW hd.view_39 []) mean mg mb B) (h0 : 0 < x.length) (hs : x.length ≤ 5000) (hr : (reprText x).length ≤ 100000)
    (hok : (∀ c ∈ x.cps, c < 128) → ∀ t' h' tk, (∀ b o, s.heap.get? b = some o → h'.get? b = some o) → R (.ok (.ret (.str x t'))) { s with heap := h', toks := tk })
    (hbad : ¬ (∀ c ∈ x.cps, c < 128) → ∀ e tup tm h' tk, Heap.FlyingW B outer e (.type "UnicodeError") (.ref tup) h' → h'.TupAt tup [.str (msgOf x) tm] → B.get? tup = none → s.heap.UpToSlots h' → R (.error (.ref e)) { s with heap := h', toks := tk }) :
    codeAny (model PySem.Challenge.rw_kn0058_01.row.toRowW.prog w) A (.call (.ref 21) ⟨[.str x t], []⟩) R s := by
  have hh2 : ∀ env, (A.deeper env).handled = none := fun env => hh
  have hs2 : x.length ≤ 10000 := by omega
  refine code_plain hB X₀ T₀.nolimit (by k_is) (by k_is) hroom (BindsTo.of_eq rfl) (locs rfl) fun h₁ F N => ?_
  have X : (hd.heap_39 w.params).In s.heap := fun a o e => hB _ _ (X₀ a o e)
  have T := T₀.keeps hB
  try dsimp only
  try k_fold
  k_steps
  · exact hok (by assumption) _ _ _ (Fr.keep (by assumption))
  · rename_i hex
    have hL : B.get? s.heap.objs.size = none := by
      cases hq : B.get? s.heap.objs.size with
      | none => rfl
      | some o => exact absurd (Heap.lt_size (hB _ o hq)) (Nat.lt_irrefl _)
    refine caught_uee (A1 := A) (L := s.heap.objs.size) hA (Heap.FunFrames.cons (by intro q; cases q) rfl F.ns hL (hfun.of_keeps fun b o hb _ => ⟨o, F.keep b o hb, rfl⟩)) (fun b o hb => F.keep b o (hB b o hb)) hsz F.ns rfl X₀ T₀ hr hex ?_
    intro e2 tup tm h' tk H Tu TB U
    refine leaves_heldU rfl H fun h'' Fl U' => ?_
    exact hbad (by assumption) e2 tup tm h'' _ Fl (Tu.of_slots U') TB (((Heap.UpToSlots.of_keeps F.keep).trans U).trans U')
end
end Mine

end
section
namespace Mine
open PySem PySem.W PySem.Spec PySem.Calls PyProof.Rows
theorem primed12 : PySem.Challenge.rw_kn0058_01 = PySem.Challenge.rw_kn0058_01 ∧ hd.heap_39 = hd.heap_39 := by
  w_top off
  k_fill
  exact ⟨rfl, rfl⟩

theorem uattr : ExcAttrFacts "UnicodeError" where
  ga := .of (owner := "BaseException") (n := "__getattribute__") (by rw [typeLookup_type, builtinLookup_eq_fast]; kernel_rfl) (by decide +kernel) (by decide +kernel) (by decide +kernel)
    (by first | exact .inl (by decide +kernel) | exact .inr (by decide +kernel)) (by rw [isSubtype_type]; kernel_rfl)
  lkArgs := by rw [typeLookup_type, builtinLookup_eq_fast]; kernel_rfl
  sub := by rw [isSubtype_type]; kernel_rfl

section
variable {prog : Program} {w : World} {A : Around} {E : Value → Shared → Prop} {s : Shared} {e t : Addr} {oe ot : Obj} {ws : Array Value} {h₀ : Heap} {L : Addr} {news : List (Addr × Obj)} {vs : List Value}


theorem type_N {Q : Value → Shared → Prop} (N : News h₀ L s.heap news) (hm : (e, oe) ∈ news) (hc : oe.cls = .type "UnicodeError") (hq : Q (.type "UnicodeError") s) : wpAny (model prog w) A (call (.type "type") [.ref e]) Q E s := by
  have he := N.get hm
  obtain ⟨h, g, d, tk, os⟩ := s
  exact call_type_obj he (by rw [hc]; decide) (by rw [hc]; exact hq)
theorem args_N {Q : Value → Shared → Prop} {expr : Bool} (N : News h₀ L s.heap news) (hm : (e, oe) ∈ news) (hc : oe.cls = .type "UnicodeError") (hd : oe.data = .fields ws) (h0 : ws[0]? = some (.ref t))
    (hq : Q (.ref t) { s with toks := s.toks + 1 }) : wpAny (model prog w) A (getAttr (.ref e) (PySem.Str.ofString "args") expr) Q E s := by
  have he := N.get hm
  obtain ⟨h, g, d, tk, os⟩ := s
  exact args_attr uattr he hc hd h0 hq
theorem len_N {Q : Value → Shared → Prop} {v : Value} {nt : Nat} (N : News h₀ L s.heap news) (hm : (t, ot) ∈ news) (hc : ot.cls = .type "tuple") (hd : ot.data = .seq [v].toArray nt) (hq : Q (.int 1 (s.toks + 1)) { s with toks := s.toks + 1 + 1 }) :
    wpAny (model prog w) A (call (.builtin "len") [.ref t]) Q E s :=
  PyProof.Rows.len_tuple (items := [v].toArray) ⟨_, N.get hm, hc, _, hd⟩ (by show ((1 : Nat) : Int) < 2 ^ 63; decide) hq
theorem item_N {Q : Value → Shared → Prop} {v : Value} {nt : Nat} {value slice : PySem.Expr} {u : Tok} (N : News h₀ L s.heap news) (hm : (t, ot) ∈ news) (hc : ot.cls = .type "tuple") (hd : ot.data = .seq [v].toArray nt) (hq : Q v s)
    (hs : subscripted slice false (.ref t) (.int 0 u) = operate [.ref t, .int 0 u] (getItem (.ref t) (.int 0 u)) := by with_unfolding_all rfl) : wpAny (model prog w) A (subscriptTail value slice (.ref t) (.int 0 u)) Q E s :=
  item_tupleT (l := [v]) (j := 0) ⟨_, N.get hm, hc, _, hd⟩ (by decide) (by decide) (by rfl) (by rfl) hq hs
end

section
variable {prog : Program} {w : World} {A₀ : Around} {E : Value → Shared → Prop} {s' : Shared} {B h : Heap} {outer : List Env} {L a e t L0 : Addr} {m : PySem.Str → Option Value} {name : PySem.Str} {scope : Scope} {cd : Value} {oL : Obj}
  {vs : List Value} {n : PySem.Str} {b₀ : Stmt} {suite : List Stmt} {pos np : Pos} {Q : Flow → Shared → Prop} {p : Program} {loose : List PySem.Str} {mean : ExcName → Option Value} {mg mb : PySem.Str → Option Value} {K : Frag}

/-- the handler «except UnicodeError as n» of a frame whose caller's frame L0 is no part of the base -/
theorem caught_as (hfr : A₀.frames = some outer) (F : Fr B L h m) (hsm : h.UpToSlots s'.heap) (hfl : Heap.FlyingW B (envOf name scope L a cd :: outer) e (.type "UnicodeError") (.ref t) s'.heap) (htup : s'.heap.TupAt t vs) (hnew : B.get? t = none)
    (hL0 : h.get? L0 = some oL) (hd0 : ∀ fs, oL.data ≠ .fields fs) (hB0 : B.get? L0 = none) (hne : L0 ≠ L)
    (X : K.In B) (T : TopRead p loose mg mb B) (hxB : nsIn K mainGlobals (PySem.Str.ofString "UnicodeError") = some none)
    (k : ∀ h' oe ot ws nt sl tk, Fr B L h' (fun y => if y = n then some (.ref e) else m y) → News B L h' [(e, oe), (t, ot), (L0, { oL with slots := sl })] →
        oe.cls = .type "UnicodeError" → oe.data = .fields ws → ws[0]? = some (.ref t) → ot.cls = .type "tuple" → ot.data = .seq vs.toArray nt →
      wpAny (model prog w) ((A₀.deeper (envOf name scope L a cd)).mark (some (.ref e))) (execs (b₀ :: suite) (envOf name scope L a cd))
        (fun f s₄ => wpAny (model prog w) (A₀.deeper (envOf name scope L a cd)) (do bindName (envOf name scope L a cd) n .none; unbindBehindTheSuite (envOf name scope L a cd) n pos) (fun _ s₅ => Q f s₅) E s₄)
        (AsSuiteRaised (model prog w) ((A₀.deeper (envOf name scope L a cd)).mark (some (.ref e))) (envOf name scope L a cd) n pos (notedBy (model prog w) ((A₀.deeper (envOf name scope L a cd)).mark (some (.ref e))) (envOf name scope L a cd) (cameBackBy (model prog w) (A₀.deeper (envOf name scope L a cd)) (envOf name scope L a cd) E)))
        { s' with heap := h', toks := tk })
    (hk : scope.kind = .function := by rfl) (hl : (envOf name scope L a cd).kindOf n = some .local := by rfl)
    (hx : (envOf name scope L a cd).kindOf (PySem.Str.ofString "UnicodeError") = some .globalImplicit := by rfl) :
    wpAny (model prog w) (A₀.deeper (envOf name scope L a cd)) (noteFrame (.ref e) (envOf name scope L a cd))
      (fun _ s₂ => wpAny (model prog w) (A₀.deeper (envOf name scope L a cd)) (setFlight (.ref e) none) (fun _ s₃ =>
        wpAny (model prog w) (A₀.deeper (envOf name scope L a cd)) (handleBy (.ref e) (envOf name scope L a cd) [.ExceptHandler (some (.Name (PySem.Str.ofString "UnicodeError") np)) (some n) (b₀ :: suite) pos]) Q E s₃) E s₂) E s' := by
  refine wpAny_looks_onW (Around.frames_deeper hfr) rfl hfl fun h₄ hheld₄ hsm₄ => ?_
  refine wpAny_landsW hheld₄ fun h₅ hheld hsm₅' => ?_
  have hsm₅ := hsm₄.trans hsm₅'
  have F₅ := F.of_stays hheld.1 (hsm.trans hsm₅)
  obtain ⟨ob, hob, hobc⟩ := hheld.there
  refine wpAny_handleBy_builtin_as (X := "UnicodeError") (T := "UnicodeError") (b := true) u_exc u_nt u_sub (nameX_B (cl := []) F₅ X T hxB Boot.UnicodeError (by decide) ⟨rfl, ⟨ob, hob, hobc⟩, ?_⟩ hk hx)
  simp only [if_true]
  refine lands_againW hheld fun h₆ hfl₆ hsm₆ => ?_
  have U := (hsm.trans hsm₅).trans hsm₆
  have F₆ := F.of_stays hfl₆.1 U
  obtain ⟨oe, ws, hoe, hoec, hoed, hoe0⟩ := hfl₆.first
  obtain ⟨ot, nt, hot, hotc, hotd⟩ := (htup.of_slots hsm₅).of_slots hsm₆
  obtain ⟨sl, hsl⟩ := U L0 oL hL0 hd0
  have N₀ : News B L h₆ [(L0, { oL with slots := sl })] := fun p hp => by
    rw [List.mem_singleton.mp hp]; exact ⟨hsl, hne, hB0⟩
  have N₆ := News.more F₆ (News.more F₆ N₀ hot (fun es n q => by rw [hotd] at q; cases q) hnew) hoe (fun es n q => by rw [hoed] at q; cases q) hfl₆.2.1
  exact stN F₆ N₆ (fun h₇ F₇ N₇ => k h₇ oe ot ws nt sl _ F₇ N₇ hoec hoed hoe0 hotc hotd) hk hl
end
end Mine

end
section
namespace Mine
open PySem PySem.W PySem.Spec PySem.Calls PyProof.Rows
theorem primed13 : PySem.Challenge.rw_kn0058_01 = PySem.Challenge.rw_kn0058_01 ∧ hd.heap_39 = hd.heap_39 := by
  w_top off
  k_fill
  exact ⟨rfl, rfl⟩

theorem back_ok {h₀ h h' : Heap} {L L1 d : Addr} {m m' : PySem.Str → Option Value} {news : List (Addr × Obj)} {o : Obj} (F₀ : Fr h₀ L h m) (N₀ : News h₀ L h news) (F' : Fr h L1 h' m') (N' : News h L1 h' [(d, o)]) :
    Fr h₀ L h' m ∧ News h₀ L h' ((d, o) :: news) := by
  refine ⟨F₀.keeps F'.keep, fun p hp => ?_⟩
  rcases List.mem_cons.mp hp with rfl | hp
  · obtain ⟨k1, _, k3⟩ := N' (d, o) List.mem_cons_self
    obtain ⟨oL, _, _, hL, _⟩ := F₀.ns
    refine ⟨k1, fun q => ?_, ?_⟩
    · have q' : d = L := q
      have k3' : h.get? d = none := k3
      rw [q', hL] at k3'; cases k3'
    · cases e : h₀.get? d with
      | none => rfl
      | some o' => have := F₀.keep d o' e; have k3' : h.get? d = none := k3; rw [this] at k3'; cases k3'
  · exact ⟨F'.keep _ _ (N₀ p hp).1, (N₀ p hp).2⟩

theorem back_bad {h₀ h h' B : Heap} {L L1 d : Addr} {m m' : PySem.Str → Option Value} {news led : List (Addr × Obj)} {o oL : Obj} {sl : Array (Option Value)} {es : Array DictEntry} {ep n : Nat} {vs : Array Value}
    (F₀ : Fr h₀ L h m) (N₀ : News h₀ L h news) (up : ∀ b o, h₀.get? b = some o → B.get? b = some o) (hB : ∀ b o, b ≠ L → h.get? b = some o → B.get? b = some o)
    (hL : h.get? L = some oL) (hd : oL.data = .dict es ep) (F' : Fr B L1 h' m') (N' : News B L1 h' led) (m1 : (d, o) ∈ led) (m2 : (L, ({ oL with slots := sl } : Obj)) ∈ led) (ho : o.data = .seq vs n) :
    Fr h₀ L h' m ∧ News h₀ L h' ((d, o) :: news) := by
  have hns : h'.Ns L m := by
    obtain ⟨oL', es', ep', hL', hd', r⟩ := F₀.ns
    rw [hL] at hL'; cases hL'
    exact ⟨_, es', ep', (N' _ m2).1, hd', r⟩
  refine ⟨⟨hns, fun b o e => F'.keep b o (up b o e), F₀.above⟩, fun p hp => ?_⟩
  rcases List.mem_cons.mp hp with rfl | hp
  · obtain ⟨k1, _, k3⟩ := N' _ m1
    refine ⟨k1, fun q => ?_, ?_⟩
    · have q' : d = L := q
      have h1 : h'.get? d = some o := k1
      have h2 : h'.get? L = some { oL with slots := sl } := (N' _ m2).1
      rw [q', h2] at h1
      have h3 := Option.some.inj h1
      have h4 : oL.data = o.data := by rw [← h3]
      rw [hd, ho] at h4; cases h4
    · cases e : h₀.get? d with
      | none => rfl
      | some o' => have := up d o' e; have k3' : B.get? d = none := k3; rw [this] at k3'; cases k3'
  · obtain ⟨k1, k2, k3⟩ := N₀ p hp
    exact ⟨F'.keep _ _ (hB _ _ k2 k1), k2, k3⟩

def Hold (P : Prop) : Prop := P
theorem Hold.out {P : Prop} (h : Hold P) : P := h

section
variable {w : World} {mean : ExcName → Option Value} {mg mb : PySem.Str → Option Value} {dp un : Nat} {gd : Option (List Code)} {cn : PySem.Str} {cs : Scope} {a : Addr} {ccd : Value} {cl : List (PySem.Str × Addr)} {A₀ : Around} {base h₀ : Heap} {L : Addr} {m : PySem.Str → Option Value} {s : Shared} {Q E : Value → Shared → Prop} {news : CbLed} {x : PySem.Str} {t : Tok}
local macro_rules | `(tactic| walk_at "call ref") => `(tactic| (k_here; k_dflt (show wpAny _ _ (call (Value.ref 21) [Value.str _ _]) _ _ _); refine Hold.out ?_))
local macro_rules | `(tactic| walk_at "call type:type") => `(tactic| (k_here; k_dflt (refine type_N (by k_asm) (by k_mem) (by assumption) ?_)))
local macro_rules | `(tactic| walk_at "getAttr ref") => `(tactic| (k_here; k_dflt (refine args_N (by k_asm) (by k_mem) (by assumption) (by assumption) (by assumption) ?_)))
local macro_rules | `(tactic| walk_at "call builtin:len") => `(tactic| (k_here; k_dflt (refine len_N (by k_asm) (by k_mem) (by assumption) (by assumption) ?_)))
local macro_rules | `(tactic| walk_at "subscriptTail") => `(tactic| (k_here; k_dflt (refine item_N (by k_asm) (by k_mem) (by assumption) (by assumption) ?_)))

theorem told (B₀ : Below A₀ base [] h₀) (F₀ : Fr h₀ L s.heap m) (X₀ : (hd.heap_39 w.params).In h₀) (N₀ : News h₀ L s.heap news) (T₀ : Top hd.view_39 (looseW hd.view_39 []) mean mg mb h₀) (hk : cs.kind = .function)
    (h0 : 0 < x.length) (hs : x.length ≤ 5000) (hr : (reprText x).length ≤ 100000) (hdp : dp + 2 < recursionLimit) (hun : un + 20 < cLine)
    (hok : (∀ c ∈ x.cps, c < 128) → ∀ d h' tk t1 t2, Fr h₀ L h' m → News h₀ L h' ((d, listOf #[.str (PySem.Str.ofString "passed") t1, .str x t2] 0) :: news) → Q (.ref d) { s with heap := h', toks := tk })
    (hbad : ¬ (∀ c ∈ x.cps, c < 128) → ∀ d h' tk t1 t2, Fr h₀ L h' m → News h₀ L h' ((d, listOf #[.str (PySem.Str.ofString "refused") t1, .str (msgOf x) t2] 0) :: news) → Q (.ref d) { s with heap := h', toks := tk }) :
    wpAny (model PySem.Challenge.rw_kn0058_01.row.toRowW.prog w) (ktrTop dp un gd cn cs L a ccd cl []) (call (.ref 75) [.str x t]) Q E s := by
  refine wpAny_call ?_
  refine code_plain (B := h₀) F₀.keep X₀ T₀.nolimit (by k_is) (by k_is) (by ktr_room) (BindsTo.of_eq rfl) (locs rfl) fun h₁ F N => ?_
  have X : (hd.heap_39 w.params).In s.heap := fun a o e => F₀.keep _ _ (X₀ a o e)
  have T := T₀.keeps F₀.keep
  try dsimp only
  try k_fold
  k_steps
  unfold Hold
  have hlt : L < s.heap.objs.size := F₀.ns.lt
  have up : ∀ b o, h₀.get? b = some o → (s.heap.hide L).get? b = some o := fun b o e => (Heap.hide_ne s.heap (fun q => by rw [q, Heap.get?_none_of_le F₀.above] at e; cases e)).trans (F₀.keep b o e)
  have stay : ∀ b o, (s.heap.hide L).get? b = some o → s.heap.get? b = some o := fun b o e => Heap.of_hide e
  have hsize : (s.heap.hide L).objs.size = s.heap.objs.size := Heap.hide_size _ _
  obtain ⟨oL, es, ep, hL, hLd, hLr⟩ := F₀.ns
  have X₁ : (hd.heap_39 w.params).In (s.heap.hide L) := fun a o e => up _ _ (X₀ a o e)
  have T₁ := T₀.keeps up
  have hL1 : (s.heap.hide L).get? s.heap.objs.size = none := Heap.get?_none_of_le (Nat.le_of_eq hsize)
  refine wpAny_call (to_bytes (B := s.heap.hide L) (by rfl) (by rfl) (by ktr_room) ?_ (fun b o e => F.keep _ _ (stay b o e)) ?_ X₁ T₁ h0 hs hr ?_ ?_)
  · exact Heap.FunFrames.cons (by intro q; cases q) rfl F.ns hL1 (Heap.FunFrames.cons (by intro q; exact absurd (hk.symm.trans q) (by intro z; cases z)) rfl (Heap.Ns.keeps ⟨oL, es, ep, hL, hLd, hLr⟩ F.keep) (Heap.hide_self _ _) trivial)
  · show (s.heap.hide L).objs.size ≤ h₁.objs.size
    rw [hsize]; exact Nat.le_of_lt F.ns.lt
  · intro hx t' h' tk keep
    dsimp only
    have F1 := F.keeps keep
    have N1 : News s.heap s.heap.objs.size h' [] := News.nil
    clear F N
    k_steps
    have z := back_ok F₀ N₀ (by assumption) (by assumption)
    exact hok hx _ _ _ _ _ z.1 z.2
  · intro hx e tup tm h' tk Fl Tu TB U
    dsimp only
    refine caught_as (L0 := L) (oL := oL) rfl (F := ⟨F.ns, fun b o e => F.keep _ _ (stay b o e), Nat.le_of_eq hsize⟩) U Fl Tu TB (F.keep _ _ hL) (fun fs q => by rw [hLd] at q; cases q) (Heap.hide_self _ _) (Nat.ne_of_lt hlt) X₁ (topRead_of T₁) (by k_is)
      fun h'' oe ot ws nt sl tk' F9 N9 hc9 hd9 h09 hc8 hd8 => ?_
    k_steps
    have z := back_bad (h := s.heap) (B := s.heap.hide L) F₀ N₀ up (fun b o hb e => (Heap.hide_ne s.heap hb).trans e) hL hLd (by assumption) (by assumption) (List.mem_cons_self) (List.mem_cons_of_mem _ (List.mem_cons_of_mem _ (List.mem_cons_of_mem _ (List.mem_cons_self)))) rfl
    exact hbad hx _ _ _ _ _ z.1 z.2
end
end Mine

end
section
open PySem PySem.W PyProof.Rows Mine
namespace Mine
theorem primed6 : PySem.Challenge.rw_kn0058_01 = PySem.Challenge.rw_kn0058_01 ∧ hd.heap_39 = hd.heap_39 := by
  w_top off
  k_fill
  exact ⟨rfl, rfl⟩
def TextOk (ns pre : List Int) (x : PySem.Str) : Prop :=
  pre.length ≤ x.length ∧ x.length ≤ 1 + pre.length ∧ ((ns.length : Int).fmod 2 = 0 → 1 + pre.length ≤ x.length) ∧ ∀ c ∈ x.cps, c < 1114112
theorem text_start0 {ns : List Int} (h : (ns.length : Int).fmod 2 ≠ 0) : TextOk ns [] (PySem.Str.ofString "") := by
  rw [show PySem.Str.ofString "" = ⟨#[]⟩ from by decide +kernel]
  exact ⟨Nat.zero_le _, Nat.zero_le _, fun q => absurd q h, fun c hc => by simp at hc⟩
theorem text_start1 {ns : List Int} : TextOk ns [] ⟨#[233]⟩ :=
  ⟨Nat.zero_le _, Nat.le_refl _, fun _ => Nat.le_refl _, fun c hc => by simp at hc; omega⟩
theorem text_step {ns pre : List Int} {x y : PySem.Str} {n : Int} {c : Nat} (h : TextOk ns pre x) (hy : y = ⟨#[c]⟩) (hc : c < 1114112) : TextOk ns (pre ++ [n]) (x ++ y) := by
  subst hy
  obtain ⟨h1, h2, h3, h4⟩ := h
  have e : (x ++ (⟨#[c]⟩ : PySem.Str)).length = x.length + 1 := by rw [PySem.Str.length_append]; rfl
  refine ⟨?_, ?_, fun q => ?_, fun d hd => ?_⟩
  · rw [e, List.length_append, List.length_singleton]; omega
  · rw [e, List.length_append, List.length_singleton]; omega
  · have := h3 q
    rw [e, List.length_append, List.length_singleton]; omega
  · rw [PySem.Str.cps_append] at hd
    rcases Array.mem_append.mp hd with hd | hd
    · exact h4 d hd
    · simp at hd; omega
theorem pick_ok (n : Int) : 0 ≤ [0, (n.fdiv 4).fmod 128, 128 + (n.fdiv 4).fmod 128, (n.fdiv 4).fmod 1114112].getD (n.fmod 4).toNat 0 ∧ [0, (n.fdiv 4).fmod 128, 128 + (n.fdiv 4).fmod 128, (n.fdiv 4).fmod 1114112].getD (n.fmod 4).toNat 0 ≤ 1114111 := by
  have h1 : 0 ≤ (n.fdiv 4).fmod 128 ∧ (n.fdiv 4).fmod 128 < 128 := ⟨Int.fmod_nonneg_of_pos _ (by decide), Int.fmod_lt_of_pos _ (by decide)⟩
  have h2 : 0 ≤ (n.fdiv 4).fmod 1114112 ∧ (n.fdiv 4).fmod 1114112 < 1114112 := ⟨Int.fmod_nonneg_of_pos _ (by decide), Int.fmod_lt_of_pos _ (by decide)⟩
  generalize (n.fmod 4).toNat = k
  rcases k with _ | _ | _ | _ | k
  · simp
  · simp; omega
  · simp; omega
  · simp; omega
  · simp
theorem text_fits {ns pre : List Int} {x y : PySem.Str} (h : TextOk ns pre x) (hl : pre.length ≤ 1000) (hy : y.length = 1) : x.length + y.length ≤ sizeLine := by
  rw [sizeLine_eq, hy]
  have := h.2.1
  omega
theorem item_menu (i : Int) : ∃ c, c < 1114112 ∧ Txt.item (PySem.Str.ofString "'\"\\\t\n\x0d a") (i.fmod 8) = ⟨#[c]⟩ := by
  have h1 : 0 ≤ i.fmod 8 ∧ i.fmod 8 < 8 := ⟨Int.fmod_nonneg_of_pos _ (by decide), Int.fmod_lt_of_pos _ (by decide)⟩
  have hk : ∀ k, k < 8 → ∃ c, c < 1114112 ∧ (PySem.Str.ofString "'\"\\\t\n\x0d a").cps[k]? = some c := by
    intro k hk
    have : ∀ k, k < 8 → ((PySem.Str.ofString "'\"\\\t\n\x0d a").cps[k]?).any (fun c => decide (c < 1114112)) = true := by decide +kernel
    have := this k hk
    cases e : (PySem.Str.ofString "'\"\\\t\n\x0d a").cps[k]? with
    | none => rw [e] at this; cases this
    | some c => rw [e] at this; exact ⟨c, by simpa using this, rfl⟩
  obtain ⟨c, hc, e⟩ := hk (i.fmod 8).toNat (by omega)
  exact ⟨c, hc, item_meets h1.1 e⟩
theorem text_stepA {ns pre : List Int} {x : PySem.Str} {n : Int} (h : TextOk ns pre x) : TextOk ns (pre ++ [n]) (x ++ Txt.item (PySem.Str.ofString "'\"\\\t\n\x0d a") ((n.fdiv 4).fmod 8)) := by
  obtain ⟨c, hc, e⟩ := item_menu (n.fdiv 4)
  exact text_step h e hc
theorem text_stepB {ns pre : List Int} {x : PySem.Str} {n : Int} (h : TextOk ns pre x) :
    TextOk ns (pre ++ [n]) (x ++ ⟨#[([0, (n.fdiv 4).fmod 128, 128 + (n.fdiv 4).fmod 128, (n.fdiv 4).fmod 1114112].getD (n.fmod 4).toNat 0).toNat]⟩) :=
  text_step h rfl (by have := pick_ok n; omega)
theorem text_end {ns : List Int} {x : PySem.Str} (h : TextOk ns (List.take 24 ns) x) : 0 < x.length ∧ x.length ≤ 100 ∧ ∀ c ∈ x.cps, c < 1114112 := by
  obtain ⟨h1, h2, h3, h4⟩ := h
  have hl : (List.take 24 ns).length = min 24 ns.length := List.length_take
  refine ⟨?_, by omega, h4⟩
  by_cases q : (ns.length : Int).fmod 2 = 0
  · have := h3 q; omega
  · have : ns.length ≠ 0 := fun z => q (by rw [z]; rfl)
    omega
section
local macro_rules | `(tactic| walk_at "call builtin:chr") => `(tactic| (k_here; k_dflt (refine PyProof.Rows.chr_of_range (pick_ok _).1 (pick_ok _).2 ?_)))
local macro_rules | `(tactic| walk_at "inplaceOp Add str str") => `(tactic| (k_here; k_dflt (refine SBL.iadd (hsz := ?hsz) ?_; (case hsz => exact text_fits (by assumption) (by omega) (by first | assumption | rfl))); intro _ _ _))
local macro_rules | `(tactic| k_room) => `(tactic| ktr_room)

theorem text_claim (w : World) {mean : ExcName → Option Value} {mg mb : PySem.Str → Option Value} {dp un : Nat} {gd : Option (List Code)} {cn : PySem.Str} {cs : Scope} {a : Addr} {ccd : Value} {cl : List (PySem.Str × Addr)} {outer : List Env} {A₀ : Around} {base h₀ : Heap} {L : Addr} {m : PySem.Str → Option Value} {s : Shared} {Q E : Value → Shared → Prop} {news : CbLed} {l : Addr} {vs : List Value} {ns : List Int} :
    Below A₀ base outer h₀ → Fr h₀ L s.heap m → (hd.heap_39 w.params).In h₀ → News h₀ L s.heap news → Top hd.view_39 (looseW hd.view_39 []) mean mg mb h₀ → cs.kind = .function →
    base.IsList l vs.toArray → IntsAre vs ns → ns.length ≤ 63 → dp + 4 < recursionLimit → un + 20 < cLine →
    (∀ (x : PySem.Str) (t : Tok) (h' : Heap) (tk' : Nat), 0 < x.length → x.length ≤ 100 → (∀ c ∈ x.cps, c < 1114112) → Fr h₀ L h' m → News h₀ L h' news → Q (.str x t) { s with heap := h', toks := tk' }) →
      wpAny (model PySem.Challenge.rw_kn0058_01.row.toRowW.prog w) (ktrTop dp un gd cn cs L a ccd cl outer) (call (.ref 28) [.ref l]) Q E s := by
  intros; rename_i hl hi hlen hdp hun hret
  k_with "pyIter ref" => k_state (fun pre (text : PySem.Str) => TextOk ns pre text) "text"
  k_with "state" => first | exact text_start1 | exact text_start0 (by assumption) | exact text_stepA (by assumption) | exact text_stepB (by assumption)
  refine wpAny_call ?_
  k_dflt cell_enter
  k_steps
  all_goals (rename TextOk ns _ _ => hT; have z := text_end hT; refine hret _ _ _ _ z.1 z.2.1 z.2.2 (by assumption) (cb_drop (by assumption) (fun p hp => List.mem_cons_of_mem _ hp)))
end
end Mine

end
section
namespace Mine
open PySem PySem.W PySem.Spec PySem.Calls PyProof.Rows PyProof.V
open PySem.Builtin.Str (reprChar)

def reprL (q : Nat) (l : List Nat) : List Nat := l.flatMap (reprChar q)
def sufL : List Nat := (PySem.Str.ofString " contains non-ASCII characters").cps.toList
theorem reprL_snoc (q : Nat) (l : List Nat) (c : Nat) : reprL q (l ++ [c]) = reprL q l ++ reprChar q c := by simp [reprL]
theorem reprL_split (q : Nat) (l : List Nat) (c : Nat) (r : List Nat) : reprL q (l ++ c :: r) = reprL q l ++ (reprChar q c ++ reprL q r) := by simp [reprL]
theorem foldl_repr_list (q : Nat) : ∀ (l : List Nat) (acc : Array Nat), (l.foldl (fun out c => out ++ (reprChar q c).toArray) acc).toList = acc.toList ++ reprL q l
  | [], acc => by simp [reprL]
  | c :: r, acc => by
    rw [List.foldl_cons, foldl_repr_list q r]
    simp [reprL]
theorem reprText_list (x : PySem.Str) : (reprText x).cps.toList = reprQuote x :: (reprL (reprQuote x) x.cps.toList ++ [reprQuote x]) := by
  show ((x.cps.foldl (fun out c => out ++ (reprChar (reprQuote x) c).toArray) #[reprQuote x]).push (reprQuote x)).toList = _
  rw [Array.toList_push, ← Array.foldl_toList, foldl_repr_list]
  simp
def headL (q : Nat) : List Nat := [85, 82, 76, 32, q]
theorem msg_list (x : PySem.Str) : (msgOf x).cps.toList = headL (reprQuote x) ++ reprL (reprQuote x) x.cps.toList ++ (reprQuote x :: sufL) := by
  unfold msgOf
  rw [PySem.Str.cps_append, PySem.Str.cps_append, Array.toList_append, Array.toList_append, reprText_list]
  rw [show (PySem.Str.ofString "URL ").cps.toList = [85, 82, 76, 32] from by decide +kernel]
  show _ = _
  simp [headL, sufL]
theorem quote_is (x : PySem.Str) : reprQuote x = 39 ∨ reprQuote x = 34 := by
  unfold reprQuote
  split
  · exact Or.inr rfl
  · exact Or.inl rfl
theorem mem_contains (x : PySem.Str) (c : Nat) : x.cps.contains c = decide (c ∈ x.cps.toList) := by
  rw [← Array.contains_toList]
  simp [List.contains_eq_mem]
theorem ofS_39 : PySem.Str.ofString "'" = ⟨#[39]⟩ := by decide +kernel
theorem ofS_34 : PySem.Str.ofString "\"" = ⟨#[34]⟩ := by decide +kernel
theorem quote_a {x : PySem.Str} (h : (Builtin.Str.occurrences x (PySem.Str.ofString "'") 0 x.length 1).isEmpty = true) : reprQuote x = 39 := by
  rw [ofS_39, empty_one] at h
  unfold reprQuote
  rw [if_neg]
  rw [mem_contains]
  simp at h
  simp [h]
theorem quote_b {x : PySem.Str} (h : (Builtin.Str.occurrences x (PySem.Str.ofString "'") 0 x.length 1).isEmpty = false) (h2 : (Builtin.Str.occurrences x (PySem.Str.ofString "\"") 0 x.length 1).isEmpty = true) : reprQuote x = 34 := by
  rw [ofS_39, empty_one] at h
  rw [ofS_34, empty_one] at h2
  unfold reprQuote
  rw [if_pos]
  rw [mem_contains, mem_contains]
  simp at h h2
  simp [h, h2]
theorem quote_c {x : PySem.Str} (h2 : (Builtin.Str.occurrences x (PySem.Str.ofString "\"") 0 x.length 1).isEmpty = false) : reprQuote x = 39 := by
  rw [ofS_34, empty_one] at h2
  unfold reprQuote
  rw [if_neg]
  rw [mem_contains, mem_contains]
  simp at h2
  simp [h2]

theorem reprChar_bare {q c : Nat} (hq : q = 39 ∨ q = 34) (hc : 128 ≤ c) (hp : Unicode.isPrintable c = true) : reprChar q c = [c] := by
  unfold reprChar
  have e1 : (c == q || c == 92) = false := by simp only [Bool.or_eq_false_iff, beq_eq_false_iff_ne, ne_eq]; omega
  have h10 : (c == 10) = false := by simp only [beq_eq_false_iff_ne, ne_eq]; omega
  have h13 : (c == 13) = false := by simp only [beq_eq_false_iff_ne, ne_eq]; omega
  have h9 : (c == 9) = false := by simp only [beq_eq_false_iff_ne, ne_eq]; omega
  simp only [e1, hp, h10, h13, h9, Bool.false_eq_true, if_false, if_true]
theorem reprChar_esc {q c : Nat} (hq : q = 39 ∨ q = 34) (hc : 128 ≤ c) (hc2 : c < 1114112) (hp : Unicode.isPrintable c = false) : reprChar q c = numL c :=
  reprChar_num (by omega) (by omega) (by omega) (by omega) (by omega) hp hc2
theorem numL_head (c : Nat) : ∃ r, numL c = 92 :: r := by
  unfold numL
  split
  · exact ⟨_, rfl⟩
  · split <;> exact ⟨_, rfl⟩

theorem slice_one {x : PySem.Str} {A C : List Nat} {b : Nat} (h : x.cps.toList = A ++ b :: C) (i : Int) (hi : i = (A.length : Int)) : Txt.slice x (some i) (some (i + 1)) = ⟨#[b]⟩ := by
  subst hi
  have hl : x.length = A.length + 1 + C.length := by
    show x.cps.size = _
    rw [← Array.length_toList, h]
    simp; omega
  have e : ((A.length : Int) + 1) = ((A.length + 1 : Nat) : Int) := by push_cast; rfl
  have p1 := StrLaws.sliced_plain x (a := A.length) (b := A.length + 1) (by omega) (by omega)
  have p2 := StrLaws.strSliceIndices_plain (a := A.length) (b := A.length + 1) (len := x.length) (by omega) (by omega)
  have p3 : (Builtin.Str.strSliceIndices (some (A.length : Int)) (some ((A.length + 1 : Nat) : Int)) 1 x.length).filterMap (x.cps[·]?) = [b] := by
    rw [p1, h]
    simp
  unfold Txt.slice
  rw [e]
  split
  · next hh =>
    rw [p2] at hh
    simp at hh
    have hA : A = [] := by cases A with | nil => rfl | cons => simp at hl; omega
    have hC : C = [] := by cases C with | nil => rfl | cons => simp at hl; omega
    subst hA; subst hC
    refine PySem.Str.ext' (Array.toList_inj.mp ?_)
    rw [h]; rfl
  · refine PySem.Str.ext' (Array.toList_inj.mp ?_)
    show ((Builtin.Str.strSliceIndices (some (A.length : Int)) (some ((A.length + 1 : Nat) : Int)) 1 x.length).filterMap (x.cps[·]?)).toArray.toList = [b]
    rw [p3]

theorem join_flat (l : List PySem.Str) : (Txt.join (PySem.Str.ofString "") l).cps.toList = l.flatMap (fun x => x.cps.toList) := by
  have e : Txt.join (PySem.Str.ofString "") l = PySem.Str.join (PySem.Str.ofString "") l := StrLaws.glued_eq_join _ _
  rw [e, show PySem.Str.ofString "" = ⟨#[]⟩ from by decide +kernel]
  induction l with
  | nil => rfl
  | cons a r ih =>
    rw [join_nil_cons, PySem.Str.cps_append, Array.toList_append, ih (StrLaws.glued_eq_join _ _)]
    rfl

theorem ever_print {n : Nat} (h : bareEver (n : Int) = true) : Unicode.isPrintable n = true := by
  unfold bareEver at h
  simp only [Bool.and_eq_true, decide_eq_true_eq] at h
  have : ∀ k, k < 256 → 161 ≤ k → k ≠ 173 → Unicode.isPrintable k = true := by decide +kernel
  exact this n (by omega) (by omega) (by omega)
theorem within_gap {lo hi c : Nat} (h1 : lo ≤ c) (h2 : c ≤ hi) : ∀ l : List (Nat × Nat), l.all (fun p => decide (p.2 < lo) || decide (hi < p.1)) = true → Unicode.within l c = false
  | [], _ => rfl
  | (a, b) :: r, h => by
    rw [List.all_cons, Bool.and_eq_true] at h
    obtain ⟨h3, h4⟩ := h
    simp only [Bool.or_eq_true, decide_eq_true_eq] at h3
    have ih := within_gap h1 h2 r h4
    show (if c < a then false else (decide (c ≤ b) || Unicode.within r c)) = false
    rw [ih]
    by_cases q : c < a
    · rw [if_pos q]
    · rw [if_neg q]
      simp only [Bool.or_false, decide_eq_false_iff_not]
      omega
theorem never_print {n : Nat} (h : bareNever (n : Int) = true) : Unicode.isPrintable n = false := by
  unfold bareNever at h
  simp only [Bool.and_eq_true, Bool.or_eq_true, decide_eq_true_eq] at h
  rcases h with (h | h) | h
  · exact within_gap (lo := 128) (hi := 160) (by omega) (by omega) UnicodeData.printable (by decide +kernel)
  · exact within_gap (lo := 173) (hi := 173) (by omega) (by omega) UnicodeData.printable (by decide +kernel)
  · exact within_gap (lo := 55296) (hi := 57343) (by omega) (by omega) UnicodeData.printable (by decide +kernel)

def BareOk (D : List (PyData × PyData)) : Prop := ∀ n : Nat, lookup (.int (n : Int)) D = none ∨ lookup (.int (n : Int)) D = some (.bool (Unicode.isPrintable n))
theorem BareOk.nil : BareOk [] := fun _ => Or.inl rfl
theorem BareOk.put {D : List (PyData × PyData)} (h : BareOk D) {n : Nat} {b : Bool} (hb : Unicode.isPrintable n = b) : BareOk (putD (.int (n : Int)) (.bool b) D) := by
  intro k
  by_cases e : k = n
  · subst e
    refine Or.inr ?_
    rw [lookup_putD_same, hb]
  · rw [lookup_putD_other (by omega)]
    exact h k

structure NSt where
  us : List Value
  ws : List PySem.Str
  cnt : Nat
  pt : Int
  tk : Tok
  ob : Obj
  kvs : List (Int × Value)
  D : List (PyData × PyData)

def NInv (x : PySem.Str) (D₀ : List (PyData × PyData)) (pre : List Int) (c : NSt) : Prop :=
  c.ws.flatMap (fun y => y.cps.toList) = headL (reprQuote x) ++ reprL (reprQuote x) (pre.map Int.toNat) ∧
  c.pt = 5 + ((reprL (reprQuote x) (pre.map Int.toNat)).length : Int) ∧ BareOk c.D ∧ c.D.length ≤ D₀.length + pre.length ∧ c.us.length = 1 + pre.length

theorem NInv.step {x : PySem.Str} {D₀ : List (PyData × PyData)} {pre : List Int} {c : NSt} (h : NInv x D₀ pre c) {n : Nat} {c' : NSt} {y : PySem.Str}
    (hw : c'.ws = c.ws ++ [y]) (hy : y.cps.toList = reprChar (reprQuote x) n) (hp : c'.pt = c.pt + (y.length : Int)) (hb : BareOk c'.D) (hd : c'.D.length ≤ c.D.length + 1) (hu : c'.us.length = c.us.length + 1) :
    NInv x D₀ (pre ++ [(n : Int)]) c' := by
  obtain ⟨h1, h2, h3, h4, h5⟩ := h
  have e : (pre ++ [(n : Int)]).map Int.toNat = pre.map Int.toNat ++ [n] := by simp
  have ey : y.length = (reprChar (reprQuote x) n).length := by
    rw [← hy]; show y.cps.size = _; simp
  refine ⟨?_, ?_, hb, ?_, ?_⟩
  · rw [hw, List.flatMap_append, h1, e, reprL_snoc, List.append_assoc]
    simp [hy]
  · rw [hp, h2, e, reprL_snoc, List.length_append, ey]; push_cast; omega
  · rw [List.length_append, List.length_singleton]; omega
  · rw [List.length_append, List.length_singleton]; omega

theorem codes_nat {xt : PySem.Str} {pre post : List Int} {n : Nat} (e : KStt.codes xt = pre ++ (n : Int) :: post) : xt.cps.toList = pre.map Int.toNat ++ n :: post.map Int.toNat := by
  have h : (KStt.codes xt).map Int.toNat = xt.cps.toList := by
    unfold KStt.codes
    rw [List.map_map]
    exact (List.map_congr_left (g := _root_.id) fun c _ => Int.toNat_natCast c).trans (List.map_id _)
  rw [← h, e]; simp
theorem codes_all (xt : PySem.Str) : (KStt.codes xt).map Int.toNat = xt.cps.toList := by
  unfold KStt.codes
  rw [List.map_map]
  exact (List.map_congr_left (g := _root_.id) fun c _ => Int.toNat_natCast c).trans (List.map_id _)

theorem NInv.slice {x : PySem.Str} {D₀ : List (PyData × PyData)} {pre post : List Int} {c : NSt} (h : NInv x D₀ pre c) {n : Nat} (e : KStt.codes x = pre ++ (n : Int) :: post) {b : Nat} {r : List Nat} (hr : reprChar (reprQuote x) n = b :: r) :
    Txt.slice (msgOf x) (some c.pt) (some (c.pt + 1)) = ⟨#[b]⟩ := by
  refine slice_one (A := headL (reprQuote x) ++ reprL (reprQuote x) (pre.map Int.toNat)) (C := r ++ reprL (reprQuote x) (post.map Int.toNat) ++ (reprQuote x :: sufL)) ?_ _ ?_
  · rw [msg_list, codes_nat e, reprL_split, hr]
    simp
  · rw [h.2.1, List.length_append]
    show _ = ((5 + _ : Nat) : Int)
    push_cast; rfl

theorem NInv.stands {x : PySem.Str} {D₀ : List (PyData × PyData)} {pre post : List Int} {c : NSt} (h : NInv x D₀ pre c) {n : Nat} (e : KStt.codes x = pre ++ (n : Int) :: post) (hn : 128 ≤ n) (hn2 : n < 1114112) {b : Bool} (hb : Unicode.isPrintable n = b) :
    (Txt.slice (msgOf x) (some c.pt) (some (c.pt + 1)) == (⟨#[n]⟩ : PySem.Str)) = b := by
  cases b with
  | true =>
    rw [h.slice e (reprChar_bare (quote_is x) hn hb)]
    exact beq_self_eq_true _
  | false =>
    obtain ⟨r, hr⟩ := numL_head n
    rw [h.slice e ((reprChar_esc (quote_is x) hn hn2 hb).trans hr)]
    rw [← toList_beq]
    show ([92] == [n]) = false
    simp; omega
theorem NInv.done {x : PySem.Str} {D₀ : List (PyData × PyData)} {c : NSt} (h : NInv x D₀ (KStt.codes x) c) {q : PySem.Str} (hq : IsQuote q (reprQuote x)) :
    (msgOf x == Txt.join (PySem.Str.ofString "") c.ws ++ q ++ PySem.Str.ofString " contains non-ASCII characters") = true := by
  have : msgOf x = Txt.join (PySem.Str.ofString "") c.ws ++ q ++ PySem.Str.ofString " contains non-ASCII characters" := by
    refine PySem.Str.ext' (Array.toList_inj.mp ?_)
    rw [msg_list, PySem.Str.cps_append, PySem.Str.cps_append, Array.toList_append, Array.toList_append, join_flat, h.1, codes_all, hq.1]
    simp [sufL]
  rw [this]
  exact beq_self_eq_true _
theorem digN_lt (i : Nat) (h : i < 16) : digN i < 1114112 := by unfold digN; split <;> omega
theorem figsN_lt : ∀ (k n : Nat), ∀ d ∈ figsN k n, d < 1114112
  | 0, _ => fun d h => by simp [figsN] at h
  | k + 1, n => fun d h => by
    rcases List.mem_append.mp h with h | h
    · exact figsN_lt k _ d h
    · rw [List.mem_singleton.mp h]; exact digN_lt _ (Nat.mod_lt _ (by decide))
theorem numL_lt (n : Nat) : ∀ d ∈ numL n, d < 1114112 := by
  unfold numL
  intro d h
  split at h
  · rcases List.mem_cons.mp h with h | h; omega
    rcases List.mem_cons.mp h with h | h; omega
    exact figsN_lt _ _ d h
  · split at h
    · rcases List.mem_cons.mp h with h | h; omega
      rcases List.mem_cons.mp h with h | h; omega
      exact figsN_lt _ _ d h
    · rcases List.mem_cons.mp h with h | h; omega
      rcases List.mem_cons.mp h with h | h; omega
      exact figsN_lt _ _ d h
theorem reprChar_lt {q c : Nat} (hc : c < 1114112) : ∀ d ∈ reprChar q c, d < 1114112 := by
  intro d h
  by_cases h1 : c = q ∨ c = 92
  · unfold reprChar at h
    rw [if_pos (by simpa using h1)] at h
    simp at h; omega
  · by_cases h2 : c = 10 ∨ c = 13 ∨ c = 9
    · unfold reprChar at h
      rw [if_neg (by simpa using h1)] at h
      rcases h2 with h2 | h2 | h2 <;> (subst h2; simp at h; omega)
    · by_cases h3 : Unicode.isPrintable c = true
      · have e1 : (c == q || c == 92) = false := by simp only [Bool.or_eq_false_iff, beq_eq_false_iff_ne, ne_eq]; omega
        have h10 : (c == 10) = false := by simp only [beq_eq_false_iff_ne, ne_eq]; omega
        have h13 : (c == 13) = false := by simp only [beq_eq_false_iff_ne, ne_eq]; omega
        have h9 : (c == 9) = false := by simp only [beq_eq_false_iff_ne, ne_eq]; omega
        unfold reprChar at h
        simp only [e1, h3, h10, h13, h9, Bool.false_eq_true, if_false, if_true] at h
        simp at h; omega
      · rw [reprChar_num (by omega) (by omega) (by omega) (by omega) (by omega) (by simpa using h3) hc] at h
        exact numL_lt c d h
theorem msg_lt {x : PySem.Str} (hx : ∀ c ∈ x.cps, c < 1114112) : ∀ c ∈ (msgOf x).cps, c < 1114112 := by
  intro c hc
  have hc' : c ∈ (msgOf x).cps.toList := Array.mem_toList_iff.mpr hc
  rw [msg_list] at hc'
  have hq := quote_is x
  rcases List.mem_append.mp hc' with h | h
  · rcases List.mem_append.mp h with h | h
    · simp [headL] at h; omega
    · obtain ⟨d, hd, h⟩ := List.mem_flatMap.mp h
      exact reprChar_lt (hx d (Array.mem_toList_iff.mp hd)) c h
  · rcases List.mem_cons.mp h with h | h
    · omega
    · have : ∀ c ∈ sufL, c < 1114112 := by decide +kernel
      exact this c h
theorem NInv.start {x : PySem.Str} {D : List (PyData × PyData)} {t tk : Tok} {o : Obj} {kvs : List (Int × Value)} (hB : BareOk D) :
    NInv x D [] ⟨[.str (PySem.Str.ofString "URL " ++ ⟨#[reprQuote x]⟩) t], [PySem.Str.ofString "URL " ++ ⟨#[reprQuote x]⟩], 0, 5, tk, o, kvs, D⟩ := by
  refine ⟨?_, rfl, hB, Nat.le_refl _, rfl⟩
  show (PySem.Str.ofString "URL " ++ ⟨#[reprQuote x]⟩ : PySem.Str).cps.toList ++ [] = headL (reprQuote x) ++ []
  rw [PySem.Str.cps_append, Array.toList_append, show (PySem.Str.ofString "URL ").cps.toList = [85, 82, 76, 32] from by decide +kernel]
  rfl
section
variable {prog : Program} {w : World} {A : Around} {E : Value → Shared → Prop} {s : Shared} {Q : Value → Shared → Prop}
theorem eq_at {x y : PySem.Str} {t u : Tok} {b : Bool} (e : (x == y) = b) (h : Q (.bool b) s) : wpAny (model prog w) A (compareOp .Eq (.str x t) (.str y u)) Q E s := by
  subst e; exact PyProof.Rows.eq_str h
theorem notin_lit {i : Int} {t : Tok} {d : Addr} {D : List (PyData × PyData)} {b : Bool} (T : IntTab prog w s.heap d D) (e : (lookup (.int i) D).isSome = b) (h : Q (.bool (!b)) { s with toks := s.toks + 1 }) :
    wpAny (model prog w) A (compareOp .NotIn (.int i t) (.ref d)) Q E s := by
  subst e; exact notin_intTab T h
theorem item_lit {value slice : PySem.Expr} {i : Int} {t : Tok} {d : Addr} {D : List (PyData × PyData)} {b : Bool} (T : IntTab prog w s.heap d D) (hl : lookup (.int i) D = some (.bool b))
    (h : Q (.bool b) { s with toks := s.toks + 1 })
    (hs : subscripted slice false (.ref d) (.int i t) = operate [.ref d, .int i t] (getItem (.ref d) (.int i t)) := by with_unfolding_all rfl) (hg : ∀ r, letTemporaryGo value (.ref d) r = pure () := by intro _; with_unfolding_all rfl) :
    wpAny (model prog w) A (subscriptTail value slice (.ref d) (.int i t)) Q E s := by
  refine item_intTab T hl (fun v hv => ?_) hs hg
  have e := Flat.bool_inv hv
  subst e
  exact h
theorem len_lit {x : PySem.Str} {t : Tok} (hx : x.length ≤ 1000000) (h : Q (.int x.length (s.toks + 1)) { s with toks := s.toks + 1 + 1 }) : wpAny (model prog w) A (call (.builtin "len") [.str x t]) Q E s :=
  SBL.len (by omega) h
end
theorem mk_len (l : List Nat) : (⟨l.toArray⟩ : PySem.Str).length = l.length := by simp [PySem.Str.length]
theorem reprChar_short {q c : Nat} (hc : c < 1114112) : (reprChar q c).length ≤ 10 := StrLaws.reprChar_len q c (by omega)
theorem off_l {own news : List (Addr × Obj)} {adr : List Addr} {l d : Addr} (h : OwnOff own adr) (h2 : d < l ∧ AllLt l news) (ha : l ∈ adr) : ∀ p ∈ news ++ own, p.1 ≠ l := by
  intro p hp
  rcases List.mem_append.mp hp with hp | hp
  · exact Nat.ne_of_lt (kst_ltOf h2.2 p hp)
  · exact h p hp _ ha
theorem off_d {own news : List (Addr × Obj)} {adr : List Addr} {d : Addr} (h : OwnOff own adr) (h2 : ∀ p ∈ news, p.1 ≠ d) (ha : d ∈ adr) : ∀ p ∈ news ++ own, p.1 ≠ d := by
  intro p hp
  rcases List.mem_append.mp hp with hp | hp
  · exact h2 p hp
  · exact h p hp _ ha
theorem led_sub {a b : Addr × Obj} {news own : List (Addr × Obj)} : ∀ p ∈ a :: b :: news, p ∈ a :: b :: (news ++ own) := by
  intro p hp
  simp only [List.mem_cons, List.mem_append] at hp ⊢
  rcases hp with hp | hp | hp
  · exact Or.inl hp
  · exact Or.inr (Or.inl hp)
  · exact Or.inr (Or.inr (Or.inl hp))
theorem led_own {a b : Addr × Obj} {news own : List (Addr × Obj)} : ∀ p ∈ own, p ∈ a :: b :: (news ++ own) := by
  intro p hp
  simp only [List.mem_cons, List.mem_append]
  exact Or.inr (Or.inr (Or.inr hp))
theorem NInv.step2 {x : PySem.Str} {D₀ : List (PyData × PyData)} {pre : List Int} {us : List Value} {ws : List PySem.Str} {cnt cnt' : Nat} {pt : Int} {tk0 tk' : Tok} {ob ob' : Obj} {kv kv' : List (Int × Value)} {D D' : List (PyData × PyData)} (h : NInv x D₀ pre ⟨us, ws, cnt, pt, tk0, ob, kv, D⟩) {n : Nat} {v : Value} {y : PySem.Str}
    (hy : y = ⟨(reprChar (reprQuote x) n).toArray⟩) (hb : BareOk D') (hd : D'.length ≤ D.length + 1) :
    NInv x D₀ (pre ++ [(n : Int)]) ⟨us ++ [v], ws ++ [y], cnt', pt + (y.length : Int), tk', ob', kv', D'⟩ :=
  h.step (y := y) rfl (by rw [hy]) rfl hb hd (by simp)
theorem msg_fit {x : PySem.Str} (h : (reprText x).length ≤ 100000) : (msgOf x).length ≤ 100100 := by
  unfold msgOf
  rw [PySem.Str.length_append, PySem.Str.length_append]
  have e1 : (PySem.Str.ofString "URL ").length = 4 := by decide +kernel
  have e2 : (PySem.Str.ofString " contains non-ASCII characters").length ≤ 40 := by decide +kernel
  omega
theorem numL_short (n : Nat) : (numL n).length ≤ 10 := by
  unfold numL
  split
  · simp [figsN_length]
  · split <;> simp [figsN_length]
theorem piece_esc {x : PySem.Str} {n : Nat} (hn : 128 ≤ n) (hn2 : n < 1114112) (hb : Unicode.isPrintable n = false) : (⟨(numL (n : Int).toNat).toArray⟩ : PySem.Str) = ⟨(reprChar (reprQuote x) n).toArray⟩ := by
  rw [Int.toNat_natCast, reprChar_esc (quote_is x) hn hn2 hb]
theorem piece_bare {x : PySem.Str} {n : Nat} (hn : 128 ≤ n) (hb : Unicode.isPrintable n = true) : (⟨#[n]⟩ : PySem.Str) = ⟨(reprChar (reprQuote x) n).toArray⟩ := by
  rw [reprChar_bare (quote_is x) hn hb]
theorem NInv.joined {x : PySem.Str} {D₀ : List (PyData × PyData)} {c : NSt} (h : NInv x D₀ (KStt.codes x) c) {q : PySem.Str} (hq : IsQuote q (reprQuote x)) :
    (Txt.join (PySem.Str.ofString "") c.ws).length + q.length + (PySem.Str.ofString " contains non-ASCII characters").length = (msgOf x).length := by
  have e := eq_of_beq (h.done hq)
  rw [e, PySem.Str.length_append, PySem.Str.length_append]
theorem flat_len (l : List PySem.Str) : (l.map (·.length)).sum = (l.flatMap (fun y => y.cps.toList)).length := by
  induction l with
  | nil => rfl
  | cons a r ih =>
    rw [List.map_cons, List.sum_cons, ih, List.flatMap_cons, List.length_append]
    simp [PySem.Str.length]
theorem NInv.weight {x : PySem.Str} {D₀ : List (PyData × PyData)} {c : NSt} (h : NInv x D₀ (KStt.codes x) c) (hS : StrsAre c.us c.ws) (hr : (reprText x).length ≤ 100000) (hs : x.length ≤ 5000) :
    (c.ws.map (·.length)).sum + c.ws.length ≤ 1048576 := by
  have h1 := flat_len c.ws
  have h2 : (msgOf x).length = (msgOf x).cps.toList.length := by simp [PySem.Str.length]
  rw [msg_list, List.length_append] at h2
  have h3 := msg_fit hr
  have h4 := PyProof.Rows.StrsAre.length hS
  have h5 := h.2.2.2.2
  rw [KStt.codes_length] at h5
  rw [h.1, codes_all] at h1
  omega
theorem NInv.add1 {x : PySem.Str} {D₀ : List (PyData × PyData)} {c : NSt} (h : NInv x D₀ (KStt.codes x) c) {q : PySem.Str} (hq : IsQuote q (reprQuote x)) (hm : (msgOf x).length ≤ sizeLine) :
    (Txt.join (PySem.Str.ofString "") c.ws).length + q.length ≤ sizeLine := by
  have := h.joined hq
  omega
theorem NInv.add2 {x : PySem.Str} {D₀ : List (PyData × PyData)} {c : NSt} (h : NInv x D₀ (KStt.codes x) c) {q : PySem.Str} (hq : IsQuote q (reprQuote x)) (hm : (msgOf x).length ≤ sizeLine) :
    (Txt.join (PySem.Str.ofString "") c.ws ++ q).length + (PySem.Str.ofString " contains non-ASCII characters").length ≤ sizeLine := by
  have := h.joined hq
  rw [PySem.Str.length_append]
  omega
theorem repr_bound {x : PySem.Str} (hx : ∀ c ∈ x.cps, c < 1114112) : (reprText x).length ≤ 10 * x.length + 2 :=
  StrLaws.reprText_len x fun c hc => Nat.lt_of_lt_of_le (hx c (Array.mem_toList_iff.mp hc)) (by decide)
theorem msg_bound {x : PySem.Str} : (msgOf x).length ≤ (reprText x).length + 44 := by
  unfold msgOf
  rw [PySem.Str.length_append, PySem.Str.length_append]
  have e1 : (PySem.Str.ofString "URL ").length = 4 := by decide +kernel
  have e2 : (PySem.Str.ofString " contains non-ASCII characters").length ≤ 40 := by decide +kernel
  omega
theorem msg_pos {x : PySem.Str} : 0 < (msgOf x).length := by
  unfold msgOf
  rw [PySem.Str.length_append, PySem.Str.length_append]
  have e1 : (PySem.Str.ofString "URL ").length = 4 := by decide +kernel
  omega
end Mine

end
section
open PySem PySem.W PySem.Spec PyProof.Rows PyProof.V Mine
open PySem.Builtin.Str (reprChar)
namespace Mine
theorem primed14 : PySem.Challenge.rw_kn0058_01 = PySem.Challenge.rw_kn0058_01 ∧ hd.heap_39 = hd.heap_39 := by
  w_top off
  k_fill
  exact ⟨rfl, rfl⟩
inductive Mark1 : Prop | mk
def IfqP (y : PySem.Str) (s : Shared) (v : Value) (s₂ : Shared) : Prop := ∃ t tk, v = .str y t ∧ s₂ = { s with toks := tk }
theorem ifq_out {y y' : PySem.Str} {s : Shared} {t : Tok} {tk : Nat} (e : y' = y) : IfqP y s (.str y' t) { s with toks := tk } := ⟨t, tk, by rw [e], rfl⟩
theorem ifq {prog : Program} {w : World} {A : Around} {E : Value → Shared → Prop} {s : Shared} {e : Expr} {env : Env} {Q : Value → Shared → Prop} (y : PySem.Str)
    (h1 : wpAny (model prog w) A (eval e env) (IfqP y s) E s) (h2 : ∀ t tk, Q (.str y t) { s with toks := tk }) : wpAny (model prog w) A (eval e env) Q E s :=
  wpAny_mono h1 (by rintro v s₂ ⟨t, tk, rfl, rfl⟩; exact h2 t tk) fun _ _ z => z

section
variable {w : World} {mean : ExcName → Option Value} {mg mb : PySem.Str → Option Value} {dp un : Nat} {gd : Option (List Code)} {cn : PySem.Str} {cs : Scope} {a : Addr} {ccd : Value} {cl : List (PySem.Str × Addr)} {outer : List Env} {A₀ : Around} {base h₀ : Heap} {L : Addr} {m : PySem.Str → Option Value} {s : Shared} {Q E : Value → Shared → Prop} {news : CbLed} {x : PySem.Str} {t1 t2 : Tok} {d : Addr} {o : Obj} {kvs : List (Int × Value)} {D : List (PyData × PyData)}

local macro_rules | `(tactic| size_fits) => `(tactic| with_reducible assumption)
local macro_rules | `(tactic| k_all) => `(tactic| assumption)
local macro_rules | `(tactic| k_ne) => `(tactic| assumption)
local macro_rules | `(tactic| k_room) => `(tactic| ktr_room)
local macro_rules | `(tactic| walk_at "exec For Name Name cons nil") => `(tactic| (k_here; (rename Fr _ _ _ _ => lF'); (with_unfolding_all refine' For_invVF lF' ?k1 ?k2 ?_; (case k1 => exact rfl); (case k2 => exact rfl); k_whole)))
local macro_rules | `(tactic| walk_at "pyIter str") => `(tactic| (refine Hold.out ?_))
local macro_rules | `(tactic| walk_at "eval IfExp") => `(tactic| (rename Mark1 => hm9; clear hm9; refine Hold.out ?_))
local macro_rules | `(tactic| walk_at "compareOp Eq str str") => `(tactic| (k_here; k_dflt (refine eq_at (by with_reducible assumption) ?_)))
local macro_rules | `(tactic| walk_at "call builtin:str.join") => `(tactic| (k_here; (with_reducible show wpAny _ _ (call (Value.builtin _) [Value.str _ _, Value.ref _]) _ _ _); k_dflt (refine join_listW (by is_list) (by with_reducible assumption) (by decide +kernel) (by with_reducible assumption) ?_); intro _ _))
local macro_rules | `(tactic| walk_at "compareOp NotIn int ref") => `(tactic| (k_here; k_dflt (refine notin_lit (by k_tabat) (by assumption) ?_)))
local macro_rules | `(tactic| walk_at "subscriptTail") => `(tactic| (k_here; (with_reducible show wpAny _ _ (subscriptTail _ _ (Value.ref _) (Value.int _ _)) _ _ _); k_dflt (refine item_lit (by k_tabat) (by first | assumption | exact lookup_putD_same _ _ _) ?_)))
local macro_rules | `(tactic| walk_at "setItem ref int") => `(tactic| (k_here; k_dflt (refine' setItem_K PyProof.V.same_int (intKind_is _ _ _ _) ?v ?F ?N ?U ?d ?f ?_ ?z; (case F => k_asm); (case N => k_asm); (case U => k_updF); (case d => k_asm); (case f => k_asm); (case z => (rw [sizeLine_eq]; omega)); (case v => exact PyProof.V.Flat.bool _)); intro h' o' F' N' hd' hf'; (try dsimp only at N'); (try k_sweep)))
local macro_rules | `(tactic| walk_at "call builtin:list.append") => `(tactic| (k_here; k_dflt (refine' append_K ?k1 ?k2 ?k3 ?_ ?z; (case k1 => k_asm); (case k2 => k_asm); (case k3 => k_upd); (case z => (rw [List.size_toArray, sizeLine_eq]; omega)); k_whole); intro h' F' N'; (try k_sweep)))
local macro_rules | `(tactic| walk_at "call builtin:len") => `(tactic| (k_here; (with_reducible show wpAny _ _ (call (Value.builtin "len") [Value.str _ _]) _ _ _); k_dflt (refine len_lit (by first | exact Nat.le_of_ble_eq_true rfl | (rw [mk_len, Int.toNat_natCast]; omega)) ?_)))
local macro_rules | `(tactic| walk_at "call ref") => `(tactic| (k_here; k_dflt (show wpAny _ _ (call (Value.ref 47) [Value.int _ _, Value.str _ _]) _ _ _); k_dflt (refine' ascii_claim _ _ _ _ _ _ _ ?k1 ?k2 ?k3 ?k4 ?k5 ?k6 ?k7 ?k8 ?k9 ?_; (case k1 => k_asm); (case k2 => k_asm); (case k3 => k_asm); (case k4 => k_asm); (case k5 => k_asm); (case k6 => first | exact rfl | assumption); (case k7 => exact ⟨⟨Int.natCast_nonneg _, by omega⟩, by assumption⟩); (case k8 => ktr_room); (case k9 => ktr_units)); intro t9 h9 tk9 F9 N9; (try dsimp only); (try k_fold)))
local macro_rules | `(tactic| walk_at "call ref") => `(tactic| (k_here; k_dflt (show wpAny _ _ (call (Value.ref 40) [Value.int _ _]) _ _ _); k_dflt (refine' number_claim _ _ _ _ ?k1 ?k2 ?k3 ?k4 ?k5 ?k6 ?k7 ?k8 ?k9 ?_; (case k1 => k_asm); (case k2 => k_asm); (case k3 => k_asm); (case k4 => k_asm); (case k5 => k_asm); (case k6 => first | exact rfl | assumption); (case k7 => exact Int.natCast_nonneg _); (case k8 => ktr_room); (case k9 => ktr_units)); intro t9 h9 tk9 F9 N9; (try dsimp only); (try k_fold)))
local macro_rules | `(tactic| walk_at "call ref") => `(tactic| (k_here; k_dflt (show wpAny _ _ (call (Value.ref 54) [Value.int _ _]) _ _ _); k_dflt (refine' ever_claim _ _ _ _ ?k1 ?k2 ?k3 ?k4 ?k5 ?k6 ?k7 ?k8 ?k9 ?_; (case k1 => k_asm); (case k2 => k_asm); (case k3 => k_asm); (case k4 => k_asm); (case k5 => k_asm); (case k6 => first | exact rfl | assumption); (case k7 => trivial); (case k8 => ktr_room); (case k9 => ktr_units)); intro t9 h9 tk9 F9 N9; (try dsimp only); (try k_fold)))
local macro_rules | `(tactic| walk_at "call ref") => `(tactic| (k_here; k_dflt (show wpAny _ _ (call (Value.ref 61) [Value.int _ _]) _ _ _); k_dflt (refine' never_claim _ _ _ _ ?k1 ?k2 ?k3 ?k4 ?k5 ?k6 ?k7 ?k8 ?k9 ?_; (case k1 => k_asm); (case k2 => k_asm); (case k3 => k_asm); (case k4 => k_asm); (case k5 => k_asm); (case k6 => first | exact rfl | assumption); (case k7 => trivial); (case k8 => ktr_room); (case k9 => ktr_units)); intro t9 h9 tk9 F9 N9; (try dsimp only); (try k_fold)))
theorem names (B₀ : Below A₀ base outer h₀) (F₀ : Fr h₀ L s.heap m) (X₀ : (hd.heap_39 w.params).In h₀) (N₀ : News h₀ L s.heap ((d, o) :: news)) (T₀ : Top hd.view_39 (looseW hd.view_39 []) mean mg mb h₀) (hk : cs.kind = .function)
    (hD : o.IsDictOf (intKind PySem.Challenge.rw_kn0058_01.row.toRowW.prog w) kvs) (hF : FlatPairs PyData.int kvs D) (hsys : (d == sysModules) = false) (hoffd : ∀ p ∈ news, p.1 ≠ d) (hB : BareOk D) (hDl : D.length ≤ 100000)
    (hs : x.length ≤ 5000) (hx : ∀ c ∈ x.cps, c < 1114112) (hr : (reprText x).length ≤ 100000) (hdp : dp + 8 < recursionLimit) (hun : un + 50 < cLine)
    (hret : ∀ o' kvs' D' h' tk, o'.IsDictOf (intKind PySem.Challenge.rw_kn0058_01.row.toRowW.prog w) kvs' → FlatPairs PyData.int kvs' D' → BareOk D' → D'.length ≤ D.length + x.length → Fr h₀ L h' m → News h₀ L h' ((d, o') :: news) → Q (.bool true) { s with heap := h', toks := tk }) :
    wpAny (model PySem.Challenge.rw_kn0058_01.row.toRowW.prog w) (ktrTop dp un gd cn cs L a ccd cl outer) (call (.ref 68) [.str (msgOf x) t1, .str x t2, .ref d]) Q E s := by
  have hQ : IsQuote ⟨#[reprQuote x]⟩ (reprQuote x) := ⟨rfl, quote_is x⟩
  have hmf : (msgOf x).length ≤ sizeLine := by rw [sizeLine_eq]; have := msg_fit hr; omega
  have mk1 : Mark1 := .mk
  refine wpAny_call ?_
  k_dflt cell_enter
  k_steps
  unfold Hold
  refine ifq ⟨#[reprQuote x]⟩ ?_ ?_
  · refine IfExp_ ?_
    k_steps
    · exact ifq_out (by rw [quote_a (by assumption)]; exact ofS_39)
    · exact ifq_out (by rw [quote_b (by assumption) (by assumption)]; exact ofS_34)
    · exact ifq_out (by rw [quote_c (by assumption)]; exact ofS_39)
  · intro t9 tk9
    k_steps
    unfold Hold
    rename News _ _ _ _ => nN
    rename Fr _ _ _ _ => fN
    refine KStt.kst_text (fun c : NSt => (_, listOf c.us.toArray c.cnt) :: (d, c.ob) :: news) (fun c : NSt => [(PySem.Str.ofString "at", .int c.pt c.tk)]) (fun c : NSt => StrsAre c.us c.ws ∧ c.ob.IsDictOf (intKind PySem.Challenge.rw_kn0058_01.row.toRowW.prog w) c.kvs ∧ FlatPairs PyData.int c.kvs c.D) [PySem.Str.ofString "c", PySem.Str.ofString "piece", PySem.Str.ofString "stands"] (NInv x D) ⟨[.str _ _], [_], 0, 5, _, o, kvs, D⟩ (by rfl) fN nN ⟨.cons _ _ .nil, hD, hF⟩ (by intro p hp; rw [List.mem_singleton.mp hp]; rfl) ?_ ?_ ?_
    · exact NInv.start hB
    · rintro ⟨us, ws, cnt, pt, tk0, ob, kv, Dc⟩ pre post n t u h tk own e hoff ⟨hS, hDo, hFo⟩ hp F N
      clear fN nN
      dsimp only at hS hDo hFo N
      rw [List.cons_append, List.cons_append] at N
      rename _ ∧ AllLt _ _ => hl1
      have hNl := off_l hoff hl1 List.mem_cons_self
      have hNd := off_d hoff hoffd (List.mem_cons_of_mem _ List.mem_cons_self)
      have hld := Nat.ne_of_gt hl1.1
      have hld2 := Nat.ne_of_lt hl1.1
      have hcps := codes_nat e
      have hn : n < 1114112 := hx n (Array.mem_toList_iff.mp (by rw [hcps]; simp))
      have hpre : pre.length ≤ 5000 := by
        have h1 : x.cps.toList.length = x.length := by simp [PySem.Str.length]
        rw [hcps, List.length_append, List.length_map] at h1
        omega
      have hul : us.length = 1 + pre.length := hp.2.2.2.2
      have hdl : Dc.length ≤ D.length + pre.length := hp.2.2.2.1
      have hrl := reprChar_short (q := reprQuote x) hn
      have hnl := numL_short n
      by_cases hc : n < 128
      · (try k_fold)
        k_steps
        rename News _ _ _ _ => nE
        simp only [List.push_toArray] at nE
        refine kst_end ⟨us ++ [.str _ _], ws ++ [_], cnt + 1, _, _, _, _, _⟩ (by assumption) nE led_sub led_own (by rfl) ⟨KStt.strs_snoc hS, by assumption, by assumption⟩ (by intro p hp; rw [List.mem_singleton.mp hp]; rfl) (by intro z h1 h2 h3; (have h2' : z ≠ PySem.Str.ofString "at" := h2 _ (List.mem_singleton.mpr rfl)); (simp only [List.contains_cons, List.contains_nil, Bool.or_false, Bool.or_eq_false_iff, beq_eq_false_iff_ne, ne_eq] at h3); simp [kstB, h1, h2', h3]) ?_
        exact NInv.step2 hp (by rw [Int.toNat_natCast]) hp.2.2.1 (Nat.le_succ _)
      · have hBare := hp.2.2.1 n
        dsimp only at hBare
        cases hb : Unicode.isPrintable n <;> rw [hb] at hBare <;> have hst := NInv.stands hp e (by omega) hn hb <;> dsimp only at hst <;> rcases hBare with hl | hl
        · have his : (lookup (.int (n : Int)) Dc).isSome = false := by rw [hl]; rfl
          (try k_fold)
          k_steps
          all_goals first
            | (exfalso; (have z := ever_print (by assumption)); rw [hb] at z; cases z)
            | ((rename News _ _ _ _ => nE); (simp only [List.push_toArray] at nE); (refine kst_end ⟨us ++ [.str _ _], ws ++ [_], cnt + 1, _, _, _, _, _⟩ (by assumption) nE led_sub led_own (by rfl) ⟨KStt.strs_snoc hS, by assumption, by assumption⟩ (by intro p hp; rw [List.mem_singleton.mp hp]; rfl) (by intro z h1 h2 h3; (have h2' : z ≠ PySem.Str.ofString "at" := h2 _ (List.mem_singleton.mpr rfl)); (simp only [List.contains_cons, List.contains_nil, Bool.or_false, Bool.or_eq_false_iff, beq_eq_false_iff_ne, ne_eq] at h3); simp [kstB, h1, h2', h3]) ?_); exact NInv.step2 hp (piece_esc (by omega) hn hb) (hp.2.2.1.put hb) (putD_length_le _ _ _))
        · have his : (lookup (.int (n : Int)) Dc).isSome = true := by rw [hl]; rfl
          (try k_fold)
          k_steps
          all_goals first
            | (exfalso; (have z := ever_print (by assumption)); rw [hb] at z; cases z)
            | ((rename News _ _ _ _ => nE); (simp only [List.push_toArray] at nE); (refine kst_end ⟨us ++ [.str _ _], ws ++ [_], cnt + 1, _, _, _, _, _⟩ (by assumption) nE led_sub led_own (by rfl) ⟨KStt.strs_snoc hS, by assumption, by assumption⟩ (by intro p hp; rw [List.mem_singleton.mp hp]; rfl) (by intro z h1 h2 h3; (have h2' : z ≠ PySem.Str.ofString "at" := h2 _ (List.mem_singleton.mpr rfl)); (simp only [List.contains_cons, List.contains_nil, Bool.or_false, Bool.or_eq_false_iff, beq_eq_false_iff_ne, ne_eq] at h3); simp [kstB, h1, h2', h3]) ?_); exact NInv.step2 hp (piece_esc (by omega) hn hb) hp.2.2.1 (Nat.le_succ _))
        · have his : (lookup (.int (n : Int)) Dc).isSome = false := by rw [hl]; rfl
          (try k_fold)
          k_steps
          all_goals first
            | (exfalso; (have z := never_print (by assumption)); rw [hb] at z; cases z)
            | ((rename News _ _ _ _ => nE); (simp only [List.push_toArray] at nE); (refine kst_end ⟨us ++ [.str _ _], ws ++ [_], cnt + 1, _, _, _, _, _⟩ (by assumption) nE led_sub led_own (by rfl) ⟨KStt.strs_snoc hS, by assumption, by assumption⟩ (by intro p hp; rw [List.mem_singleton.mp hp]; rfl) (by intro z h1 h2 h3; (have h2' : z ≠ PySem.Str.ofString "at" := h2 _ (List.mem_singleton.mpr rfl)); (simp only [List.contains_cons, List.contains_nil, Bool.or_false, Bool.or_eq_false_iff, beq_eq_false_iff_ne, ne_eq] at h3); simp [kstB, h1, h2', h3]) ?_); exact NInv.step2 hp (piece_bare (by omega) hb) (hp.2.2.1.put hb) (putD_length_le _ _ _))
        · have his : (lookup (.int (n : Int)) Dc).isSome = true := by rw [hl]; rfl
          (try k_fold)
          k_steps
          all_goals first
            | (exfalso; (have z := never_print (by assumption)); rw [hb] at z; cases z)
            | ((rename News _ _ _ _ => nE); (simp only [List.push_toArray] at nE); (refine kst_end ⟨us ++ [.str _ _], ws ++ [_], cnt + 1, _, _, _, _, _⟩ (by assumption) nE led_sub led_own (by rfl) ⟨KStt.strs_snoc hS, by assumption, by assumption⟩ (by intro p hp; rw [List.mem_singleton.mp hp]; rfl) (by intro z h1 h2 h3; (have h2' : z ≠ PySem.Str.ofString "at" := h2 _ (List.mem_singleton.mpr rfl)); (simp only [List.contains_cons, List.contains_nil, Bool.or_false, Bool.or_eq_false_iff, beq_eq_false_iff_ne, ne_eq] at h3); simp [kstB, h1, h2', h3]) ?_); exact NInv.step2 hp (piece_bare (by omega) hb) hp.2.2.1 (Nat.le_succ _))
    · rintro ⟨us, ws, cnt, pt, tk0, ob, kv, Dc⟩ u h tk ⟨hS, hDo, hFo⟩ hp F N
      clear fN nN
      dsimp only at hS hDo hFo N
      have hdn := NInv.done hp hQ
      have hw1 := NInv.weight hp hS hr hs
      have ha1 := NInv.add1 hp hQ hmf
      have ha2 := NInv.add2 hp hQ hmf
      dsimp only at hdn hw1 ha1 ha2
      (try k_fold)
      k_steps
      exact hret _ _ _ _ _ hDo hFo hp.2.2.1 (by have z := hp.2.2.2.1; rw [KStt.codes_length] at z; exact z) (by assumption) (cb_drop (by assumption) (fun p hp => List.mem_cons_of_mem _ hp))
end
end Mine

end
section
namespace Mine
open PySem PySem.W PySem.Spec PySem.Calls PyProof.Rows PyProof.Rows.LCg
section
variable {prog : Program} {w : World} {A : Around} {E : Value → Shared → Prop} {s : Shared} {h₀ : Heap} {L : Addr} {m : PySem.Str → Option Value} {env : Env}

def SrcS (prog : Program) (w : World) (A : Around) (h₀ : Heap) (L : Addr) (m : PySem.Str → Option Value) (env : Env) (elt : PySem.Expr) (x : PySem.Str) (scope : Scope) (cl : List (PySem.Str × Addr)) (Fin : Shared → List Value → List (Addr × Obj) → Prop) (xv : Value) (s₁ : Shared) : Prop :=
  ∃ y t news, xv = .str y t ∧ A.handled = none ∧ Fr h₀ L s₁.heap m ∧ News h₀ L s₁.heap news ∧ y.cps.size ≤ sizeLine ∧
    ∀ g : Heap, CompRest prog w A h₀ L m env elt x scope cl { s₁ with heap := g } (fun _ => True) (SignAt y) (Fin { s₁ with heap := g }) y.cps.size 0 [] news

theorem ListComp_S {elt iter : PySem.Expr} {x : PySem.Str} {px : Pos} {scope : Scope} {cl : List (PySem.Str × Addr)} {pos : Pos} {Q : Value → Shared → Prop} (_F₀ : Fr h₀ L s.heap m)
    (hclos : closureFor scope env = pure cl) (hcell : ∀ y ∈ scope.names, y.2 ≠ .cell) (hkind : scope.kind = .function)
    (hnames : ∀ y ∈ scope.names, y.2 = .local → scope.names.lookup y.1 = some .local) (hx : scope.names.lookup x = some .local)
    (h : wpAny (model prog w) A (eval iter env) (SrcS prog w A h₀ L m env elt x scope cl (fun s₂ => FinE h₀ L m s₂ Q)) E s)
    (hs : ∀ x, foldedSetIterable iter env x = pure x := by intro _; rfl) :
    wpAny (model prog w) A (eval (.ListComp elt [⟨.Name x px, iter, [], 0⟩] scope pos) env) Q E s := by
  rw [eval_ListComp]
  refine wpAny_comprehension_free (use := none) rfl hs hclos hkind hnames (wpAny_mono h (fun xv s₁ h₁ => ?_) fun _ _ e => e)
  obtain ⟨y, t, news, rfl, hh, F, N, hsz, R⟩ := h₁
  have key : ∀ (ty : String), Walks prog w A s₁.heap.objs.size [s₁.heap.objs.size] [s₁.heap.objs.size] y.cps.size (SignAt y) (fun i h => h.IsStrIter s₁.heap.objs.size ty y t i) →
      ∀ RR : Value → Addr → Result → Shared → Prop, (∀ D C h tk m' ys news', Fr h₀ L h m → News h₀ L h ((D, lst ys) :: news') → Off1 D news' → h.Ns C m' → h₀.get? C = none → h₀.get? D = none → C ≠ L → D ≠ L → C ≠ D → (∀ p ∈ news', p.1 ≠ C) → FinE h₀ L m { s₁ with heap := s₁.heap.push { cls := .type ty, data := .fields #[.str y t, .int 0 0] } } Q ys news' → RR (.ref D) C (.ok .next) { s₁ with heap := h, toks := tk }) →
      wpAny (model prog w) A (newList []) (fun acc s₃ => wpAny (model prog w) A (newFunctionEnv scope env.globals cl [] env.qual none .none (some env)) (fun cenv s₄ =>
      codeAny (model prog w) A (.compStart (.ListComp elt [⟨.Name x px, iter, [], 0⟩] scope pos) 0 (.ref s₁.heap.objs.size) acc { cenv with scope := relabel scope env }) (RR acc cenv.locals) s₄) E s₃) E { s₁ with heap := s₁.heap.push { cls := .type ty, data := .fields #[.str y t, .int 0 0] } } := by
    intro ty W RR hRR
    refine block_U (S := fun _ => True) (news := news) W hsz (fun i h st => by obtain ⟨o, e, _⟩ := st; exact ⟨o, e⟩) ?_ hcell hkind hx ?_ ?_ (F.keeps fun _ _ e => Heap.get?_push_of_some _ e) (N.grown fun _ _ e => Heap.get?_push_of_some _ e) (Nat.ne_of_lt F.ns.lt) (next_is_new F) (fun p hp => Nat.ne_of_lt (Heap.lt_size (N p hp).1)) trivial (R _) ?_
    · intro i h h' o nw st e e' _ _ _
      obtain ⟨o', h1, r⟩ := st
      rw [e] at h1
      exact ⟨o, e', (Option.some.inj h1).symm ▸ r⟩
    · exact ⟨_, Heap.get?_push_size _ rfl, rfl, rfl⟩
    · intro b' hb
      rw [List.mem_singleton.mp hb]
      show s₁.heap.objs.size < (s₁.heap.push _).objs.size
      rw [Heap.size_push]
      exact Nat.lt_succ_self _
    · exact hRR
  have last : ∀ ty : String, ∀ (D C : Addr) (h : Heap) (tk : Nat) (m' : PySem.Str → Option Value) (ys : List Value) (news' : List (Addr × Obj)), Fr h₀ L h m → News h₀ L h ((D, lst ys) :: news') → Off1 D news' → h.Ns C m' → h₀.get? C = none → h₀.get? D = none → C ≠ L → D ≠ L → C ≠ D → (∀ p ∈ news', p.1 ≠ C) → FinE h₀ L m { s₁ with heap := s₁.heap.push { cls := .type ty, data := .fields #[.str y t, .int 0 0] } } Q ys news' →
      ∃ m', h.Ns C m' ∧ ∀ h'', Heap.SameBut C h h'' → Q (.ref D) { s₁ with heap := h'', toks := tk } := by
    intro ty D C h tk m' ys news' F' N' o1 hn' hC₀ hD₀ hCL hDL hCD offC fin
    refine ⟨m', hn', fun h'' hs'' => fin D h'' tk (F'.change hs'' hCL hC₀) (fun p hp => ?_) o1⟩
    refine ⟨hs''.extBut _ _ ?_ (N' p hp).1, (N' p hp).2⟩
    rcases List.mem_cons.mp hp with rfl | hp
    · exact Ne.symm hCD
    · exact offC p hp
  cases ha : y.cps.all (· < 128)
  · refine wpAny_pyIter_wide ha ?_
    exact key "str_iterator" (Walks.strWide hh _ y t) _ (last "str_iterator")
  · refine wpAny_pyIter_ascii ha ?_
    exact key "str_ascii_iterator" (Walks.strAscii hh _ y t) _ (last "str_ascii_iterator")

def RestAll (n : Nat) (news : List (Addr × Obj)) (rest : Value → List (Addr × Obj) → Prop) : Prop := ∀ t', rest (.int (n : Int) t') news
theorem RestAll.get {n : Nat} {news : List (Addr × Obj)} {rest : Value → List (Addr × Obj) → Prop} (h : RestAll n news rest) (t' : Tok) : rest (.int (n : Int) t') news := h t'
theorem comp_signs {elt : PySem.Expr} {x y : PySem.Str} {scope : Scope} {cl : List (PySem.Str × Addr)} {Fin : List Value → List (Addr × Obj) → Prop} {news : List (Addr × Obj)}
    (turn : ∀ (n : Nat) (t : Tok) (ys : List Value) (I : Addr) (oI : Obj) (C : Addr) (oC : Obj) (D : Addr) (m₂ : PySem.Str → Option Value) (h : Heap) (tk : Nat) (E' : Value → Shared → Prop) (rest : Value → List (Addr × Obj) → Prop), NsObj oC m₂ → m₂ x = some (.str ⟨#[n]⟩ t) → Fr h₀ L h m → News h₀ L h ((I, oI) :: (C, oC) :: (D, lst ys) :: news) → Off3 I C D news → ((@Ne Nat I C) ∧ (@Ne Nat I D) ∧ (@Ne Nat C D)) → RestAll n news rest →
      wpAny (model prog w) A (eval elt (compEnvC scope cl C env)) (CompEnd h₀ L m { s with heap := h, toks := tk } I oI C oC D (lst ys) (fun _ => True) rest) E' { s with heap := h, toks := tk })
    (fin : ∀ ys, IntsAre ys (y.cps.toList.map fun (c : Nat) => (c : Int)) → Fin ys news) :
    CompRest prog w A h₀ L m env elt x scope cl s (fun _ => True) (SignAt y) Fin y.cps.size 0 [] news := by
  have gen : ∀ k i ys, i + k = y.cps.size → IntsAre ys ((y.cps.toList.take i).map fun (c : Nat) => (c : Int)) → CompRest prog w A h₀ L m env elt x scope cl s (fun _ => True) (SignAt y) Fin k i ys news := by
    intro k
    induction k with
    | zero =>
      intro i ys hi hy
      refine CompRest.zero (fin ys ?_)
      rw [show i = y.cps.toList.length from by simp; omega, List.take_length] at hy
      exact hy
    | succ k ih =>
      intro i ys hi hy
      refine CompRest.succ ?_
      intro v I oI C oC D m₂ h tk E' hP hC hx' F' N' off ne
      obtain ⟨c, u, hc, rfl⟩ := hP
      refine turn c u ys I oI C oC D m₂ h tk E' _ hC hx' F' N' off ne (fun t' => ih (i + 1) _ (by omega) ?_)
      have hc' : y.cps.toList[i]? = some c := by simpa using hc
      rw [List.take_add_one, hc']
      simp only [Option.toList_some, List.map_append, List.map_cons, List.map_nil]
      exact hy.append (.cons _ _ .nil)
  exact gen _ 0 [] (by simp) .nil
end
theorem signs_fit {y : PySem.Str} (h : y.length ≤ 1000000) : y.cps.size ≤ sizeLine := by
  rw [sizeLine_eq]
  have : y.cps.size ≤ 1000000 := h
  omega
theorem codes_fit {y : PySem.Str} (h : y.length ≤ 1000000) : (y.cps.toList.map fun (c : Nat) => (c : Int)).length + ([0] : List Int).length ≤ sizeLine := by
  rw [sizeLine_eq, List.length_map, Array.length_toList]
  have : y.cps.size ≤ 1000000 := h
  show y.cps.size + 1 ≤ _
  omega
theorem max_lt {x : PySem.Str} {M : Int} (h : ∀ c ∈ x.cps, c < 128) (hM : M ∈ (x.cps.toList.map fun (c : Nat) => (c : Int)) ++ [0]) : M < 128 := by
  rcases List.mem_append.mp hM with hM | hM
  · obtain ⟨c, hc, rfl⟩ := List.mem_map.mp hM
    have := h c (Array.mem_toList_iff.mp hc)
    omega
  · rw [List.mem_singleton.mp hM]; decide
theorem max_ge {x : PySem.Str} {M : Int} (h : ¬ ∀ c ∈ x.cps, c < 128) (hM : ∀ a ∈ (x.cps.toList.map fun (c : Nat) => (c : Int)) ++ [0], a ≤ M) : ¬ M < 128 := by
  intro q
  refine h fun c hc => ?_
  have := hM (c : Int) (List.mem_append.mpr (Or.inl (List.mem_map.mpr ⟨c, Array.mem_toList_iff.mpr hc, rfl⟩)))
  omega
theorem ne_at {prog : Program} {w : World} {A : Around} {s : Shared} {x y : PySem.Str} {t u : Tok} {b : Bool} {E : Value → Shared → Prop} {Q : Value → Shared → Prop} (e : (x != y) = b) (h : Q (.bool b) s) : wpAny (model prog w) A (compareOp .NotEq (.str x t) (.str y u)) Q E s := by
  subst e; exact PyProof.Rows.ne_str h
end Mine

end
section
open PySem PySem.W PySem.Spec PyProof.Rows PyProof.V Mine
namespace Mine
structure Sized (y : PySem.Str) : Prop where
  pos : 0 < y.length
  len : y.length ≤ 5000
  rep : (reprText y).length ≤ 100000
  cps : ∀ c ∈ y.cps, c < 1114112
theorem Sized.len6 {y : PySem.Str} (h : Sized y) : y.length ≤ 1000000 := Nat.le_trans h.len (by decide)
theorem sized_of {x : PySem.Str} (h0 : 0 < x.length) (h1 : x.length ≤ 100) (h2 : ∀ c ∈ x.cps, c < 1114112) : Sized x := by
  have h3 := repr_bound h2
  exact ⟨h0, by omega, by omega, h2⟩
theorem sized_msg {x : PySem.Str} (h1 : x.length ≤ 100) (h2 : ∀ c ∈ x.cps, c < 1114112) : Sized (msgOf x) := by
  have h3 := repr_bound h2
  have h4 := msg_bound (x := x)
  have h5 := msg_pos (x := x)
  have h6 := msg_lt h2
  generalize msgOf x = y at *
  have h7 := repr_bound h6
  exact ⟨h5, by omega, by omega, h6⟩
section
variable {w : World} {mean : ExcName → Option Value} {mg mb : PySem.Str → Option Value} {dp un : Nat} {gd : Option (List Code)} {cn : PySem.Str} {cs : Scope} {a : Addr} {ccd : Value} {cl : List (PySem.Str × Addr)} {outer : List Env} {A₀ : Around} {base h₀ : Heap} {L : Addr} {m : PySem.Str → Option Value} {s : Shared} {Q E : Value → Shared → Prop} {news : CbLed} {x y : PySem.Str} {t t1 t2 : Tok} {d : Addr} {o : Obj} {kvs : List (Int × Value)} {D : List (PyData × PyData)}
theorem told' (B₀ : Below A₀ base [] h₀) (F₀ : Fr h₀ L s.heap m) (X₀ : (hd.heap_39 w.params).In h₀) (N₀ : News h₀ L s.heap news) (T₀ : Top hd.view_39 (looseW hd.view_39 []) mean mg mb h₀) (hk : cs.kind = .function)
    (hS : Sized x) (hdp : dp + 2 < recursionLimit) (hun : un + 20 < cLine)
    (hok : (∀ c ∈ x.cps, c < 128) → ∀ d h' tk t1 t2, Fr h₀ L h' m → News h₀ L h' ((d, listOf #[.str (PySem.Str.ofString "passed") t1, .str x t2] 0) :: news) → Q (.ref d) { s with heap := h', toks := tk })
    (hbad : ¬ (∀ c ∈ x.cps, c < 128) → ∀ y, y = msgOf x → ∀ d h' tk t1 t2, Fr h₀ L h' m → News h₀ L h' ((d, listOf #[.str (PySem.Str.ofString "refused") t1, .str y t2] 0) :: news) → Q (.ref d) { s with heap := h', toks := tk }) :
    wpAny (model PySem.Challenge.rw_kn0058_01.row.toRowW.prog w) (ktrTop dp un gd cn cs L a ccd cl []) (call (.ref 75) [.str x t]) Q E s :=
  told B₀ F₀ X₀ N₀ T₀ hk hS.pos hS.len hS.rep hdp hun hok (fun h => hbad h _ rfl)
theorem names' (B₀ : Below A₀ base outer h₀) (F₀ : Fr h₀ L s.heap m) (X₀ : (hd.heap_39 w.params).In h₀) (N₀ : News h₀ L s.heap ((d, o) :: news)) (T₀ : Top hd.view_39 (looseW hd.view_39 []) mean mg mb h₀) (hk : cs.kind = .function)
    (hD : o.IsDictOf (intKind PySem.Challenge.rw_kn0058_01.row.toRowW.prog w) kvs) (hF : FlatPairs PyData.int kvs D) (hsys : (d == sysModules) = false) (hoffd : ∀ p ∈ news, p.1 ≠ d) (hB : BareOk D) (hDl : D.length ≤ 100000)
    (hS : Sized x) (hy : y = msgOf x) (hdp : dp + 8 < recursionLimit) (hun : un + 50 < cLine)
    (hret : ∀ o' kvs' D' h' tk, o'.IsDictOf (intKind PySem.Challenge.rw_kn0058_01.row.toRowW.prog w) kvs' → FlatPairs PyData.int kvs' D' → BareOk D' → D'.length ≤ D.length + x.length → Fr h₀ L h' m → News h₀ L h' ((d, o') :: news) → Q (.bool true) { s with heap := h', toks := tk }) :
    wpAny (model PySem.Challenge.rw_kn0058_01.row.toRowW.prog w) (ktrTop dp un gd cn cs L a ccd cl outer) (call (.ref 68) [.str y t1, .str x t2, .ref d]) Q E s := by
  subst hy
  exact names B₀ F₀ X₀ N₀ T₀ hk hD hF hsys hoffd hB hDl hS.len hS.cps hS.rep hdp hun hret
end
section
local macro_rules | `(tactic| walk_at "call ref") => `(tactic| (refine Hold.out ?_))
local macro_rules | `(tactic| walk_at "call builtin:max") => `(tactic| (refine Hold.out ?_))
local macro_rules | `(tactic| walk_at "eval ListComp") => `(tactic| (k_here; k_dflt (refine Mine.ListComp_S (by k_asm) (by with_unfolding_all rfl) (by decide) (by rfl) (by decide) (by rfl) ?_)))
local macro_rules | `(tactic| walk_at "SrcS") => `(tactic| (k_here; k_dflt (refine ⟨_, _, _, rfl, by rfl, by k_asm, by k_asm, signs_fit (Sized.len6 (by with_reducible assumption)), fun g9 => ?_⟩); k_dflt (refine comp_signs (fun n9 t9 ys9 I9 oI9 C9 oC9 D9 m9 h9 tk9 E9 rest9 hC9 hx9 F9 N9 off9 ne9 hrest9 => ?_) (fun ys9 hys9 => ?_))))
local macro_rules | `(tactic| walk_at "CompEnd") => `(tactic| (rename News _ _ _ _ => N9; rename LCg.Off3 _ _ _ _ => O9; refine LCg.CompEnd.intro (by assumption) N9 _ (fun p hp => hp) O9 True.intro (RestAll.get (by assumption) _)))
local macro_rules | `(tactic| walk_at "binaryOp Add ref ref") => `(tactic| (k_here; k_dflt (refine' kmk_add_ints ?F ?N ?a ?b ?i ?j ?_ ?z; (case F => k_asm); (case N => k_asm); (case a => kmk_list); (case b => kmk_list); (case i => assumption); (case j => exact .cons 0 _ .nil); (case z => exact codes_fit (Sized.len6 (by with_reducible assumption)))); intro D' ws' h' F' N' l1 hI'; (try k_lt l1); (try k_sweep)))
local macro_rules | `(tactic| walk_at "compareOp Eq str str") => `(tactic| (k_here; k_dflt (refine eq_at (beq_self_eq_true _) ?_)))
local macro_rules | `(tactic| walk_at "compareOp NotEq str str") => `(tactic| (k_here; k_dflt (refine ne_at (b := false) (by decide +kernel) ?_)))
theorem pick6 {h₀ h : Heap} {L : Addr} {a b c d e f : Addr × Obj} (N : News h₀ L h [a, b, c, d, e, f]) : News h₀ L h [f, e] := by
  intro p hp
  rcases List.mem_cons.mp hp with rfl | hp
  · exact N _ (.tail _ (.tail _ (.tail _ (.tail _ (.tail _ (.head _))))))
  · rw [List.mem_singleton.mp hp]; exact N _ (.tail _ (.tail _ (.tail _ (.tail _ (.head _)))))
theorem law0 : PySem.Challenge.rw_kn0058_01.Holds := hd (by
  k_go0
  all_goals (try k_fold)
  k_steps
  unfold Hold
  refine text_claim _ (by assumption) (by assumption) (by assumption) (by assumption) (by assumption) rfl (by assumption) (by assumption) (by omega) (by ktr_room) (by ktr_units) ?_
  intro x t h' tk' hx0 hx1 hx2 F N
  (try dsimp only)
  (try k_fold)
  have hS1 := sized_of hx0 hx1 hx2
  have hS2 := sized_msg hx1 hx2
  clear hx0 hx1 hx2
  k_steps
  unfold Hold
  refine told' (by assumption) (by assumption) (by assumption) (by assumption) (by assumption) rfl hS1 (by ktr_room) (by ktr_units) ?_ ?_
  · intro hasc d1 h1 tk1 ta tb F1 N1
    (try dsimp only)
    (try k_fold)
    k_steps
    unfold Hold
    refine kso_max (by assumption) (by assumption) (by kmk_list) (by assumption) (by simp) (by rfl) ?_
    intro h2 M tM tk2 F2 N2 hM hle
    have hM1 := max_lt hasc hM
    clear hM hle
    (try dsimp only)
    (try k_fold)
    k_steps
  · intro hnas y hy d1 h1 tk1 ta tb F1 N1
    rw [← hy] at hS2
    (try dsimp only)
    (try k_fold)
    k_steps
    unfold Hold
    refine kso_max (by assumption) (by assumption) (by kmk_list) (by assumption) (by simp) (by rfl) ?_
    intro h2 M tM tk2 F2 N2 hM hle
    have hM1 := max_ge hnas hle
    clear hM hle
    (try dsimp only)
    (try k_fold)
    k_steps
    unfold Hold
    rename Obj.IsDictOf (intKind _ _) _ _ => hI1
    refine' names' (by assumption) (by assumption) (by assumption) (pick6 (by assumption)) (by assumption) rfl hI1 (by assumption) (by assumption) (fun p hp => by rw [List.mem_singleton.mp hp]; k_ne) BareOk.nil (Nat.zero_le _) hS1 hy (by ktr_room) (by ktr_units) ?_
    intro o3 kvs3 D3 h3 tk3 hI3 hF3 hB3 hL3 F3 N3
    have hD3 : D3.length ≤ 5000 := Nat.le_trans hL3 (by have := hS1.len; simpa using this)
    clear hy hM1 hnas hL3
    (try dsimp only)
    (try k_fold)
    k_steps
    unfold Hold
    refine told' (by assumption) (by assumption) (by assumption) (by assumption) (by assumption) rfl hS2 (by ktr_room) (by ktr_units) ?_ ?_
    · intro hasc d1 h1 tk1 ta tb F1 N1
      (try dsimp only)
      (try k_fold)
      k_steps
      unfold Hold
      refine kso_max (by assumption) (by assumption) (by kmk_list) (by assumption) (by simp) (by rfl) ?_
      intro h2 M tM tk2 F2 N2 hM hle
      have hM1 := max_lt hasc hM
      clear hM hle
      (try dsimp only)
      (try k_fold)
      k_steps
    · intro hnas z hz d1 h1 tk1 ta tb F1 N1
      (try dsimp only)
      (try k_fold)
      k_steps
      unfold Hold
      refine kso_max (by assumption) (by assumption) (by kmk_list) (by assumption) (by simp) (by rfl) ?_
      intro h2 M tM tk2 F2 N2 hM hle
      have hM1 := max_ge hnas hle
      clear hM hle
      (try dsimp only)
      (try k_fold)
      k_steps
      unfold Hold
      refine' names' (by assumption) (by assumption) (by assumption) (pick6 (by assumption)) (by assumption) rfl hI3 hF3 (by assumption) (fun p hp => by rw [List.mem_singleton.mp hp]; k_ne) hB3 (Nat.le_trans hD3 (by decide)) hS2 hz (by ktr_room) (by ktr_units) ?_
      intro o4 kvs4 D4 h4 tk4 hI4 hF4 hB4 hL4 F4 N4
      clear hz hM1 hnas hL4 hD3
      (try dsimp only)
      (try k_fold)
      k_steps)
end
end Mine

end
theorem PySem.Challenge.cw_kn0058_01_holds : PySem.Challenge.rw_kn0058_01.Holds :=
  Mine.law0
