/- Blocks cut out of what the kit printed for this seat (ShP K11 K12 L4). -/
import Derived.Test.YtgpoplfgngiilaaGreatDoorProg
import Derived.Test.YtgpoplfgngiilaaGreatDoorR29
import Derived.Test.YtgpoplfgngiilaaGreatDoorR30
import Derived.Test.YtgpoplfgngiilaaGreatDoorR31
import Derived.Test.YtgpoplfgngiilaaGreatDoorR33
import Derived.Test.YtgpoplfgngiilaaGreatDoorR34
import Derived.Test.YtgpoplfgngiilaaGreatDoorR28
import Derived.Test.YtgpoplfgngiilaaGreatDoorR05
import Derived.Shelf.LaysC
import Derived.Shelf.Strconv.ParseIntPublic10
import Derived.BigRegion
import Derived.Outline
set_option linter.unusedVariables false
set_option linter.unusedSimpArgs false
namespace Go.Proofs
open Go.Shelf
def Tryz.laysC174_ren : Go.Shelf.Ren := ⟨fun | 174 => 43 | 247 => 64 | 245 => 65 | 287 => 98 | 279 => 99 | 280 => 100 | 281 => 101 | 282 => 102 | 321 => 140 | 322 => 141 | 316 => 142 | 171 => 144 | 205 => 143 | 243 => 196 | 246 => 239 | 283 => 262 | 284 => 263 | 285 => 264 | 286 => 265 | 129 => 277 | 317 => 281 | 318 => 282 | 319 => 283 | 320 => 209 | 337 => 248 | 338 => 249 | n => n, fun | 9 => 9 | 3 => 3 | 2 => 2 | 75 => 85 | 85 => 86 | 4 => 4 | 167 => 176 | 5 => 5 | 53 => 47 | 175 => 177 | 46 => 50 | 168 => 179 | 37 => 44 | 0 => 0 | 210 => 230 | 21 => 21 | 127 => 266 | 145 => 281 | 143 => 279 | 171 => 329 | 173 => 331 | 212 => 346 | 51 => 41 | 20 => 20 | 213 => 347 | 232 => 340 | 233 => 341 | 80 => 110 | n => n, fun | 15 => 0 | 16 => 2 | 17 => 15 | 18 => 13 | 19 => 14 | n => n⟩
theorem Tryz.laysC174 : Go.Proofs.LaysC.n174 Tryz.prog Tryz.laysC174_ren := {
  mixed := by kernel_rfl
  f129 := Tryz.func277.trans (congrArg some (by kernel_rfl))
  f171 := Tryz.func144.trans (congrArg some (by kernel_rfl))
  f174 := Tryz.func43.trans (congrArg some (by kernel_rfl))
  f205 := Tryz.func143.trans (congrArg some (by kernel_rfl))
  f243 := Tryz.func196.trans (congrArg some (by kernel_rfl))
  f245 := Tryz.func65.trans (congrArg some (by kernel_rfl))
  f246 := Tryz.func239.trans (congrArg some (by kernel_rfl))
  f247 := Tryz.func64.trans (congrArg some (by kernel_rfl))
  f279 := Tryz.func99.trans (congrArg some (by kernel_rfl))
  f280 := Tryz.func100.trans (congrArg some (by kernel_rfl))
  f281 := Tryz.func101.trans (congrArg some (by kernel_rfl))
  f282 := Tryz.func102.trans (congrArg some (by kernel_rfl))
  f283 := Tryz.func262.trans (congrArg some (by kernel_rfl))
  f284 := Tryz.func263.trans (congrArg some (by kernel_rfl))
  f285 := Tryz.func264.trans (congrArg some (by kernel_rfl))
  f286 := Tryz.func265.trans (congrArg some (by kernel_rfl))
  f287 := Tryz.func98.trans (congrArg some (by kernel_rfl))
  f316 := Tryz.func142.trans (congrArg some (by kernel_rfl))
  f317 := Tryz.func281.trans (congrArg some (by kernel_rfl))
  f318 := Tryz.func282.trans (congrArg some (by kernel_rfl))
  f319 := Tryz.func283.trans (congrArg some (by kernel_rfl))
  f320 := Tryz.func209.trans (congrArg some (by kernel_rfl))
  f321 := Tryz.func140.trans (congrArg some (by kernel_rfl))
  f322 := Tryz.func141.trans (congrArg some (by kernel_rfl))
  f337 := Tryz.func248.trans (congrArg some (by kernel_rfl))
  f338 := Tryz.func249.trans (congrArg some (by kernel_rfl))
  t0 := Tryz.underlying0
  a0 := Tryz.isAgg0
  z0 := Tryz.sizeOf0
  v0 := Tryz.zeroValue0
  t2 := Tryz.underlying2
  a2 := Tryz.isAgg2
  z2 := Tryz.sizeOf2
  v2 := Tryz.zeroValue2
  t3 := Tryz.underlying3
  a3 := Tryz.isAgg3
  z3 := Tryz.sizeOf3
  v3 := Tryz.zeroValue3
  t4 := Tryz.underlying4
  a4 := Tryz.isAgg4
  z4 := Tryz.sizeOf4
  v4 := Tryz.zeroValue4
  t5 := Tryz.underlying5
  a5 := Tryz.isAgg5
  z5 := Tryz.sizeOf5
  v5 := Tryz.zeroValue5
  t9 := Tryz.underlying9
  a9 := Tryz.isAgg9
  z9 := Tryz.sizeOf9
  v9 := Tryz.zeroValue9
  t20 := Tryz.underlying20
  a20 := Tryz.isAgg20
  z20 := Tryz.sizeOf20
  v20 := Tryz.zeroValue20
  t21 := Tryz.underlying21
  a21 := Tryz.isAgg21
  z21 := Tryz.sizeOf21
  v21 := Tryz.zeroValue21
  t37 := Tryz.underlying44
  a37 := Tryz.isAgg44
  z37 := Tryz.sizeOf44
  v37 := Tryz.zeroValue44
  t46 := Tryz.underlying50
  a46 := Tryz.isAgg50
  z46 := Tryz.sizeOf50
  v46 := Tryz.zeroValue50
  t51 := Tryz.underlying41
  a51 := Tryz.isAgg41
  z51 := Tryz.sizeOf41
  v51 := Tryz.zeroValue41
  t53 := Tryz.underlying47
  a53 := Tryz.isAgg47
  z53 := Tryz.sizeOf47
  v53 := Tryz.zeroValue47
  t75 := Tryz.underlying85
  a75 := Tryz.isAgg85
  z75 := Tryz.sizeOf85
  v75 := Tryz.zeroValue85
  t85 := Tryz.underlying86
  a85 := Tryz.isAgg86
  z85 := Tryz.sizeOf86
  v85 := Tryz.zeroValue86
  t127 := Tryz.underlying266
  a127 := Tryz.isAgg266
  z127 := Tryz.sizeOf266
  v127 := Tryz.zeroValue266
  t143 := Tryz.underlying279
  a143 := Tryz.isAgg279
  z143 := Tryz.sizeOf279
  v143 := Tryz.zeroValue279
  t145 := Tryz.underlying281
  a145 := Tryz.isAgg281
  z145 := Tryz.sizeOf281
  v145 := Tryz.zeroValue281
  t167 := Tryz.underlying176
  a167 := Tryz.isAgg176
  z167 := Tryz.sizeOf176
  v167 := Tryz.zeroValue176
  t168 := Tryz.underlying179
  a168 := Tryz.isAgg179
  z168 := Tryz.sizeOf179
  v168 := Tryz.zeroValue179
  t171 := Tryz.underlying329
  a171 := Tryz.isAgg329
  z171 := Tryz.sizeOf329
  v171 := Tryz.zeroValue329
  t173 := Tryz.underlying331
  a173 := Tryz.isAgg331
  z173 := Tryz.sizeOf331
  v173 := Tryz.zeroValue331
  t175 := Tryz.underlying177
  a175 := Tryz.isAgg177
  z175 := Tryz.sizeOf177
  v175 := Tryz.zeroValue177
  t210 := Tryz.underlying230
  a210 := Tryz.isAgg230
  z210 := Tryz.sizeOf230
  v210 := Tryz.zeroValue230
  t212 := Tryz.underlying346
  a212 := Tryz.isAgg346
  z212 := Tryz.sizeOf346
  v212 := Tryz.zeroValue346
  t213 := Tryz.underlying347
  a213 := Tryz.isAgg347
  z213 := Tryz.sizeOf347
  t232 := Tryz.underlying340
  a232 := Tryz.isAgg340
  z232 := Tryz.sizeOf340
  v232 := Tryz.zeroValue340
  t233 := Tryz.underlying341
  a233 := Tryz.isAgg341
  z233 := Tryz.sizeOf341
  v233 := Tryz.zeroValue341
  g15 := by kernel_rfl
  g16 := by kernel_rfl
  g17 := by kernel_rfl
  g18 := by kernel_rfl
  g19 := by kernel_rfl
  t80 := Tryz.underlying110
  a80 := Tryz.isAgg110
  z80 := Tryz.sizeOf110
  v80 := Tryz.zeroValue110
  i0 := by kernel_rfl
  i2 := by kernel_rfl
  i3 := by kernel_rfl
  i4 := by kernel_rfl
  i5 := by kernel_rfl
  i9 := by kernel_rfl
  i20 := by kernel_rfl
  i21 := by kernel_rfl
  i37 := by kernel_rfl
  i46 := by kernel_rfl
  i51 := by kernel_rfl
  i53 := by kernel_rfl
  i75 := by kernel_rfl
  i80 := by kernel_rfl
  i85 := by kernel_rfl
  i127 := by kernel_rfl
  i143 := by kernel_rfl
  i145 := by kernel_rfl
  i167 := by kernel_rfl
  i168 := by kernel_rfl
  i171 := by kernel_rfl
  i173 := by kernel_rfl
  i175 := by kernel_rfl
  i210 := by kernel_rfl
  i212 := by kernel_rfl
  i232 := by kernel_rfl
  i233 := by kernel_rfl
  m15 := by kernel_rfl
  m16 := by kernel_rfl
  m17 := by kernel_rfl
  m18 := by kernel_rfl
  m19 := by kernel_rfl
  c0 := by kernel_rfl
  c2 := by kernel_rfl
  c3 := by kernel_rfl
  c4 := by kernel_rfl
  c5 := by kernel_rfl
  c9 := by kernel_rfl
  c20 := by kernel_rfl
  c21 := by kernel_rfl
  c37 := by kernel_rfl
  c46 := by kernel_rfl
  c51 := by kernel_rfl
  c53 := by kernel_rfl
  c75 := by kernel_rfl
  c80 := by kernel_rfl
  c85 := by kernel_rfl
  c127 := by kernel_rfl
  c143 := by kernel_rfl
  c145 := by kernel_rfl
  c167 := by kernel_rfl
  c168 := by kernel_rfl
  c171 := by kernel_rfl
  c173 := by kernel_rfl
  c175 := by kernel_rfl
  c210 := by kernel_rfl
  c212 := by kernel_rfl
  c213 := by kernel_rfl
  c232 := by kernel_rfl
  c233 := by kernel_rfl }
open Go.RowKit in
/-- strconv.ParseInt(s, 10, 64), AT EVERY STRING THAT SPELLS AN int64 ('Lib.parseIntB 64 s.data.toList = .ok v'): v, AND NO ERROR. (LAID: no walk: one application.) -/
theorem Tryz.strconv_ParseInt_10_at64_ok (s : ByteArray) (hmax : s.size ≤ 9223372036854775806) (v : Int) (h : Lib.parseIntB 64 s.data.toList = .ok v) (w : World) :
    Calls Tryz.prog 43 #[.string s, .int .i64 10, .int .i64 64] w fun e w' => e = .returned (.tuple #[.int .i64 v, .nilIface]) ∧ (w' = w ∨ ∃ t, w' = Lib.bytesWorld w 5 t) := Any.strconv_ParseInt_10_at64_ok Tryz.laysC174 s hmax v h w
end Go.Proofs
namespace Go.Proofs.YtgpoplfgngiilaaGreatDoor
set_option linter.unusedVariables false
set_option linter.unusedSimpArgs false
open Go.RowKit Go.Proofs.YtgpoplfgngiilaaGreatDoorW.PrintWords

theorem bstr_get2 (T : List UInt8) (i : Nat) (h : i < (bstr T).size) (h2 : i < T.length) : (bstr T)[i]'h = T[i]'h2 := rfl
theorem parse_c (x : Int) (hx : x.natAbs ≤ 1000) (W : World) : Calls Tryz.prog 43 #[.string (bstr (expL x)), .int .i64 10, .int .i64 64] W fun e w' => e = .returned (.tuple #[.int .i64 x, .nilIface]) ∧ Below W.heap.size W w' := by
  have hl : (expL x).length ≤ 1000000 := by
    have h2 : (lits 10 x.natAbs).length ≤ 4 := (lits_figs 10 4 x.natAbs (by decide) (by omega)).2
    have h3 := txt_length false 10 x.natAbs (by decide)
    unfold expL
    rw [List.length_append, h3]
    split <;> simp <;> omega
  refine (Tryz.strconv_ParseInt_10_at64_ok (bstr (expL x)) (by rw [bstr_size]; omega) x (by
    have : (bstr (expL x)).data.toList = expL x := by simp [bstr]
    rw [this]
    exact parse_exp x hx) W).mono ?_
  rintro e w' ⟨rfl, h⟩
  refine ⟨rfl, ?_⟩
  rcases h with rfl | ⟨t, rfl⟩
  · exact Below.refl _ _
  · exact bytesWorld_below W 5 t

theorem cut_mid (A B C : List UInt8) (a b : Nat) (ha : a = A.length) (hb : b = A.length + B.length) : B = ((bstr (A ++ B ++ C)).extract a b).data.toList := by
  rw [bstr_mid A B C a b ha hb]
  simp [bstr]
theorem cut_end (A B : List UInt8) (a b : Nat) (ha : a = A.length) (hb : b = (A ++ B).length) : B = ((bstr (A ++ B)).extract a b).data.toList := by
  have := cut_mid A B [] a b ha (by rw [hb, List.length_append])
  rwa [List.append_nil] at this

/-- What stands at the text's places. -/
theorem at_mid (A B : List UInt8) (c : UInt8) (i : Nat) (hi : i = A.length) (h : i < (bstr (A ++ c :: B)).size) : ((bstr (A ++ c :: B))[i]'h).toNat = c.toNat := by
  subst hi
  rw [bstr_get2 _ _ _ (by simp)]
  simp

theorem hexF (c0 : UInt8) (hc0 : c0 = 120 ∨ c0 = 88) (l E : List UInt8) (c1 : UInt8) (hc1 : c1 = 112 ∨ c1 = 80) (hl : Fg l) (p : Nat) (hl1 : 1 ≤ l.length) (hl2 : l.length ≤ 16) (hp : p ≤ 19) (hE : E.length ≤ 100) (te : TypeId) (pe : Value) :
    ScansF (bstr ([48, c0] ++ ptd l p ++ c1 :: E)) (pv 16 0 l) (2 + (ptd l p).length) 16 (-(p : Int)) te pe := by
  have hL := ptd_length l p
  have hsz : (bstr ([48, c0] ++ ptd l p ++ c1 :: E)).size = 2 + (ptd l p).length + 1 + E.length := by rw [bstr_size]; simp; omega
  have hcut := cut_mid [48, c0] (ptd l p) (c1 :: E) 2 (2 + (ptd l p).length) rfl rfl
  have hend : ((bstr ([48, c0] ++ ptd l p ++ c1 :: E))[2 + (ptd l p).length]'(by omega)).toNat = c1.toNat := at_mid ([48, c0] ++ ptd l p) E c1 _ (by simp; omega) _
  have h0 : ((bstr ([48, c0] ++ ptd l p ++ c1 :: E))[0]'(by omega)).toNat = 48 := rfl
  have h1 : ((bstr ([48, c0] ++ ptd l p ++ c1 :: E))[1]'(by omega)).toNat = c0.toNat := rfl
  have hend2 : ((bstr ([48, c0] ++ ptd l p ++ c1 :: E))[2 + (ptd l p).length]'(by omega)).toNat = 112 ∨ ((bstr ([48, c0] ++ ptd l p ++ c1 :: E))[2 + (ptd l p).length]'(by omega)).toNat = 80 := by
    rw [hend]
    rcases hc1 with rfl | rfl
    · left; rfl
    · right; rfl
  have hv := pv_ptd hl p
  have hat := fun j hj => ptd_at hl p (max p l.length - p) rfl j hj
  intro r w hr hEo hr1
  rcases hc0 with rfl | rfl
  · refine (scanF_x _ r (ptd l p).length (max p l.length - p) te pe w (by omega) (by omega) (by omega) (by omega) (by omega) h0 h1 hend2 hr hEo hr1 (ptd l p) hcut hat).mono ?_
    rintro e w' ⟨v, cnt, rfl, hcn, hn, hr', hf⟩
    rw [hv] at hn
    exact ⟨v, by rw [show cnt = -(p : Int) by omega], hn, hr', hf⟩
  · refine (scanF_X _ r (ptd l p).length (max p l.length - p) te pe w (by omega) (by omega) (by omega) (by omega) (by omega) h0 h1 hend2 hr hEo hr1 (ptd l p) hcut hat).mono ?_
    rintro e w' ⟨v, cnt, rfl, hcn, hn, hr', hf⟩
    rw [hv] at hn
    exact ⟨v, by rw [show cnt = -(p : Int) by omega], hn, hr', hf⟩

theorem hexE (A : List UInt8) (c1 : UInt8) (hc1 : c1 = 112 ∨ c1 = 80) (x : Int) (hx : x.natAbs ≤ 1000) (plus : Bool) (hA : A.length ≤ 100) (te : TypeId) (pe : Value) (hq : ∀ W, (binOp .eql 85 (.iface te pe) (.iface te pe)).run Tryz.prog W = .ok (.bool true) W) :
    ScansE (bstr (A ++ expS c1 x plus)) A.length x 2 te pe := by
  have hD := Dg.txt x.natAbs
  have hl2 : (txt false 10 x.natAbs).length ≤ 4 ∧ 1 ≤ (txt false 10 x.natAbs).length := by
    have h2 : (lits 10 x.natAbs).length ≤ 4 := (lits_figs 10 4 x.natAbs (by decide) (by omega)).2
    rw [txt_length false 10 x.natAbs (by decide)]
    omega
  have hP := fun W => parse_c x hx W
  have hc2 : c1.toNat = 112 ∨ c1.toNat = 80 := by
    rcases hc1 with rfl | rfl
    · left; rfl
    · right; rfl
  unfold expL at hP
  unfold expS sgnS
  generalize txt false 10 x.natAbs = ds at *
  intro r w hr hEo hr1
  by_cases h0 : x < 0
  · rw [if_pos h0] at hP hr ⊢
    have hat := at_mid A ([45] ++ ds) c1 A.length rfl (by rw [bstr_size]; simp)
    have hat2 : ((bstr (A ++ c1 :: ([45] ++ ds)))[A.length + 1]'(by rw [bstr_size]; simp)).toNat = 45 := by
      have := at_mid (A ++ [c1]) ds 45 (A.length + 1) (by simp) (by rw [bstr_size]; simp)
      simpa using this
    have hsz : (bstr (A ++ c1 :: ([45] ++ ds))).size = A.length + 1 + 1 + ds.length := by rw [bstr_size]; simp; omega
    have hcut : ds = ((bstr (A ++ c1 :: ([45] ++ ds))).extract (A.length + 1 + 1) (bstr (A ++ c1 :: ([45] ++ ds))).size).data.toList := by
      have := cut_end (A ++ [c1, 45]) ds (A.length + 1 + 1) (bstr (A ++ c1 :: ([45] ++ ds))).size (by simp) (by rw [hsz]; simp; omega)
      simpa using this
    exact scanE_m _ r A.length x te pe w (by omega) (by omega) (by rw [hat]; exact hc2) hat2 ds hcut hD hr hEo hr1 hq hP
  · rw [if_neg h0] at hP hr ⊢
    cases plus with
    | true =>
      rw [if_pos rfl] at hr ⊢
      have hat := at_mid A ([43] ++ ds) c1 A.length rfl (by rw [bstr_size]; simp)
      have hat2 : ((bstr (A ++ c1 :: ([43] ++ ds)))[A.length + 1]'(by rw [bstr_size]; simp)).toNat = 43 := by
        have := at_mid (A ++ [c1]) ds 43 (A.length + 1) (by simp) (by rw [bstr_size]; simp)
        simpa using this
      have hsz : (bstr (A ++ c1 :: ([43] ++ ds))).size = A.length + 1 + 1 + ds.length := by rw [bstr_size]; simp; omega
      have hcut : ds = ((bstr (A ++ c1 :: ([43] ++ ds))).extract (A.length + 1 + 1) (bstr (A ++ c1 :: ([43] ++ ds))).size).data.toList := by
        have := cut_end (A ++ [c1, 43]) ds (A.length + 1 + 1) (bstr (A ++ c1 :: ([43] ++ ds))).size (by simp) (by rw [hsz]; simp; omega)
        simpa using this
      exact scanE_p _ r A.length x te pe w (by omega) (by omega) (by rw [hat]; exact hc2) hat2 ds hcut hD hr hEo hr1 hq hP
    | false =>
      rw [if_neg (by decide)] at hr ⊢
      have hat := at_mid A ([] ++ ds) c1 A.length rfl (by rw [bstr_size]; simp)
      have hsz : (bstr (A ++ c1 :: ([] ++ ds))).size = A.length + 1 + ds.length := by rw [bstr_size]; simp; omega
      have hcut : ds = ((bstr (A ++ c1 :: ([] ++ ds))).extract (A.length + 1) (bstr (A ++ c1 :: ([] ++ ds))).size).data.toList := by
        have := cut_end (A ++ [c1]) ds (A.length + 1) (bstr (A ++ c1 :: ([] ++ ds))).size (by simp) (by rw [hsz]; simp; omega)
        simpa using this
      exact scanE_0 _ r A.length x te pe w (by omega) (by omega) (by rw [hat]; exact hc2) ds hcut hD hr hEo hr1 hq hP
end Go.Proofs.YtgpoplfgngiilaaGreatDoor
namespace Go.Proofs.YtgpoplfgngiilaaGreatDoor
set_option linter.unusedVariables false
set_option linter.unusedSimpArgs false
open Go.RowKit Go.Proofs.YtgpoplfgngiilaaGreatDoorW.PrintWords

/-- The text that the law makes. -/
def hexT (c0 c1 : UInt8) (great plus : Bool) (m p : Nat) (x : Int) : List UInt8 := [48, c0] ++ ptd (txt great 16 m) p ++ expS c1 x plus

theorem txt16_len (great : Bool) (m : Nat) (hm : m < 18446744073709551616) : 1 ≤ (txt great 16 m).length ∧ (txt great 16 m).length ≤ 16 := by
  have h2 : (lits 16 m).length ≤ 16 := (lits_figs 16 16 m (by decide) (by omega)).2
  rw [txt_length great 16 m (by decide)]
  omega
theorem exp_len (c1 : UInt8) (x : Int) (plus : Bool) (hx : x.natAbs ≤ 1000) : 2 ≤ (expS c1 x plus).length ∧ (expS c1 x plus).length ≤ 6 := by
  have h2 : (lits 10 x.natAbs).length ≤ 4 := (lits_figs 10 4 x.natAbs (by decide) (by omega)).2
  have h3 := txt_length false 10 x.natAbs (by decide)
  unfold expS sgnS
  rw [List.length_cons, List.length_append, h3]
  split
  · simp; omega
  · split <;> simp <;> omega
theorem hexT_len (c0 c1 : UInt8) (great plus : Bool) (m p : Nat) (x : Int) (hm : m < 18446744073709551616) (hp : p ≤ 19) (hx : x.natAbs ≤ 1000) : 6 ≤ (hexT c0 c1 great plus m p x).length ∧ (hexT c0 c1 great plus m p x).length ≤ 40 := by
  have h1 := txt16_len great m hm
  have h2 := exp_len c1 x plus hx
  unfold hexT
  rw [List.length_append, List.length_append, ptd_length]
  simp
  omega
theorem hexT_47 (c0 c1 : UInt8) (hc0 : c0 = 120 ∨ c0 = 88) (hc1 : c1 = 112 ∨ c1 = 80) (great plus : Bool) (m p : Nat) (x : Int) : ∀ b ∈ hexT c0 c1 great plus m p x, b.toNat ≠ 47 := by
  intro b hb
  unfold hexT at hb
  rcases List.mem_append.1 hb with hb | hb
  · rcases List.mem_append.1 hb with hb | hb
    · simp only [List.mem_cons, List.not_mem_nil, or_false] at hb
      rcases hb with rfl | rfl
      · decide
      · rcases hc0 with rfl | rfl <;> decide
    · obtain ⟨j, hj, rfl⟩ := List.getElem_of_mem hb
      rcases ptd_at (Fg.txt great m) p _ rfl j hj with ⟨_, h⟩ | ⟨_, h, _⟩
      · rw [h]; decide
      · unfold Cls at h
        omega
  · unfold expS at hb
    rcases List.mem_cons.1 hb with rfl | hb
    · rcases hc1 with rfl | rfl <;> decide
    · rcases List.mem_append.1 hb with hb | hb
      · unfold sgnS at hb
        split at hb
        · simp only [List.mem_cons, List.not_mem_nil, or_false] at hb
          rw [hb]; decide
        · split at hb
          · simp only [List.mem_cons, List.not_mem_nil, or_false] at hb
            rw [hb]; decide
          · cases hb
      · have := Dg.txt x.natAbs b hb
        omega

theorem hex_text (c0 c1 : UInt8) (hc0 : c0 = 120 ∨ c0 = 88) (hc1 : c1 = 112 ∨ c1 = 80) (great plus : Bool) (m p : Nat) (x : Int) (hm : m < 18446744073709551616) (hp : p ≤ 19) (hx : x.natAbs ≤ 1000) (te : TypeId) (pe : Value)
    (hq : ∀ W, (binOp .eql 85 (.iface te pe) (.iface te pe)).run Tryz.prog W = .ok (.bool true) W) (hq2 : ∀ W, (binOp .neq 85 (.iface te pe) (.iface te pe)).run Tryz.prog W = .ok (.bool false) W) :
    HexText (bstr (hexT c0 c1 great plus m p x)) m (m * 2 ^ up (x - 4 * (p : Int))) (2 ^ dn (x - 4 * (p : Int))) te pe := by
  obtain ⟨t1, t2⟩ := txt16_len great m hm
  have e1 := exp_len c1 x plus hx
  have hsz := hexT_len c0 c1 great plus m p x hm hp hx
  have hF : ScansF (bstr (hexT c0 c1 great plus m p x)) m (2 + (ptd (txt great 16 m) p).length) 16 (-(p : Int)) te pe := by
    have := hexF c0 hc0 (txt great 16 m) (sgnS x plus ++ txt false 10 x.natAbs) c1 hc1 (Fg.txt great m) p t1 t2 hp (by unfold expS at e1; rw [List.length_cons] at e1; omega) te pe
    rw [pv_txt great 16 m (by decide) (by decide)] at this
    exact this
  have hE : ScansE (bstr (hexT c0 c1 great plus m p x)) (2 + (ptd (txt great 16 m) p).length) x 2 te pe := by
    have hl : ([48, c0] ++ ptd (txt great 16 m) p).length = 2 + (ptd (txt great 16 m) p).length := by simp; omega
    have := hexE ([48, c0] ++ ptd (txt great 16 m) p) c1 hc1 x hx plus (by rw [hl, ptd_length]; omega) te pe hq
    rw [hl] at this
    exact this
  have hs : (bstr (hexT c0 c1 great plus m p x)).size = (hexT c0 c1 great plus m p x).length := bstr_size _
  have h0 : ((bstr (hexT c0 c1 great plus m p x))[0]'(by omega)).toNat = 48 := rfl
  have h47 : ∀ (j : Nat) (hj : j < (bstr (hexT c0 c1 great plus m p x)).size), ((bstr (hexT c0 c1 great plus m p x))[j]'hj).toNat ≠ 47 := by
    intro j hj
    rw [bstr_get2 _ j hj (by omega)]
    exact hexT_47 c0 c1 hc0 hc1 great plus m p x _ (List.getElem_mem _)
  refine ⟨fun z w hz1 hz hv => ?_, fun hm0 z w hz1 hz hv => ?_, fun h => by rw [h, Nat.zero_mul], Nat.pow_pos (by decide)⟩
  · exact float_set _ m _ (-(p : Int)) x te pe hF hE (by omega) (by omega) (by rw [h0]; decide) (by rw [h0]; decide) hm (by omega) (by omega) (by omega) (by omega) hq2 z w hz1 hz hv
  · rcases Nat.eq_zero_or_pos p with hp0 | hp0
    · subst hp0
      have := rat_set_z _ m _ x te pe hF hE (by omega) (by omega) (by rw [h0]; decide) (by rw [h0]; decide) h47 hm0 hm (by omega) (by omega) hq2 z w hz1 hz hv
      exact this
    · have := rat_set_n _ m _ (-(p : Int)) x te pe hF hE (by omega) (by omega) (by rw [h0]; decide) (by rw [h0]; decide) h47 hm0 hm (by omega) (by omega) (by omega) (by omega) hq2 z w hz1 hz hv
      rw [show x + 4 * -(p : Int) = x - 4 * (p : Int) by omega] at this
      exact this

theorem few_N (m p : Nat) (x : Int) (hm : m < 18446744073709551616) (hp : p ≤ 19) (hx : x.natAbs ≤ 1000) :
    Few (lowN (m * 2 ^ up (x - 4 * (p : Int))) (2 ^ dn (x - 4 * (p : Int)))) ∧ Few (lowD (m * 2 ^ up (x - 4 * (p : Int))) (2 ^ dn (x - 4 * (p : Int)))) ∧ 0 < lowD (m * 2 ^ up (x - 4 * (p : Int))) (2 ^ dn (x - 4 * (p : Int))) ∧
    Nat.gcd (lowN (m * 2 ^ up (x - 4 * (p : Int))) (2 ^ dn (x - 4 * (p : Int)))) (lowD (m * 2 ^ up (x - 4 * (p : Int))) (2 ^ dn (x - 4 * (p : Int)))) = 1 := by
  have hD : 0 < 2 ^ dn (x - 4 * (p : Int)) := Nat.pow_pos (by decide)
  obtain ⟨l1, l2⟩ := low_le (a := m * 2 ^ up (x - 4 * (p : Int))) (b := 2 ^ dn (x - 4 * (p : Int)))
  have h1 := few_mul (m := m) (k := up (x - 4 * (p : Int))) hm (by unfold up; omega)
  have h2 := few_pow (k := dn (x - 4 * (p : Int))) (by unfold dn; omega)
  exact ⟨Nat.le_trans (lits_small 34 _ (Nat.lt_of_le_of_lt l1 h1)) (by decide), Nat.le_trans (lits_small 34 _ (Nat.lt_of_le_of_lt l2 h2)) (by decide), low_pos hD, low_coprime hD⟩

theorem lit_hex (c0 c1 : UInt8) (hc0 : c0 = 120 ∨ c0 = 88) (hc1 : c1 = 112 ∨ c1 = 80) (great plus : Bool) (m p : Nat) (x : Int) (hm : m < 18446744073709551616) (hp : p ≤ 19) (hx : x.natAbs ≤ 1000) (te : TypeId) (pe : Value)
    (hq : ∀ W, (binOp .eql 85 (.iface te pe) (.iface te pe)).run Tryz.prog W = .ok (.bool true) W) (hq2 : ∀ W, (binOp .neq 85 (.iface te pe) (.iface te pe)).run Tryz.prog W = .ok (.bool false) W) (w : World) (hE : w.cell? ⟨1, 0, none⟩ = some (.iface te pe)) :
    Calls Tryz.prog 11 #[.string (bstr (hexT c0 c1 great plus m p x)), .int .i64 1] w (ToldRat (lowN (m * 2 ^ up (x - 4 * (p : Int))) (2 ^ dn (x - 4 * (p : Int)))) (lowD (m * 2 ^ up (x - 4 * (p : Int))) (2 ^ dn (x - 4 * (p : Int)))) w) := by
  obtain ⟨f1, f2, f3, -⟩ := few_N m p x hm hp hx
  have hT := hex_text c0 c1 hc0 hc1 great plus m p x hm hp hx te pe hq hq2
  exact literal_float _ _ _ w f1 f2 f3 (fun W hB => mfl_float _ _ _ W (make_float _ m _ _ te pe hT hq hq2 W ((hB.cell (World.block_lt_of_cell? w _ hE)).trans hE)))
end Go.Proofs.YtgpoplfgngiilaaGreatDoor
namespace Go.Proofs.YtgpoplfgngiilaaGreatDoor
set_option linter.unusedVariables false
set_option linter.unusedSimpArgs false
open Go.RowKit Go.Proofs.YtgpoplfgngiilaaGreatDoorW.PrintWords

theorem pad_step (l : List UInt8) (j : Nat) : (⟨#[48]⟩ : ByteArray) ++ bstr (List.replicate j 48 ++ l) = bstr (List.replicate (j + 1) 48 ++ l) := by
  have := bstr_append [48] (List.replicate j 48 ++ l)
  exact this
theorem bstr_ext (l : List UInt8) (i j : Nat) : (bstr l).extract i j = bstr ((l.take j).drop i) := by
  apply ByteArray.ext
  apply Array.toList_inj.1
  rw [ByteArray.data_extract, Array.toList_extract, List.extract_eq_take_drop]
  simp only [bstr]
  rw [List.drop_take]

def PtRel (l : List UInt8) (k kq : Nat) (v0 : Value) : Prop := ∃ (j : Nat) (T : ByteArray), v0 = .string T ∧ Aside0 (T = bstr (List.replicate j 48 ++ l) ∧ j ≤ k - l.length ∧ kq = k - l.length - j) 

set_option maxHeartbeats 4000000 in
set_option maxRecDepth 1000000 in
theorem pointed_c (l : List UInt8) (k : Nat) (hl : l.length ≤ 1000) (hk : k ≤ 1000) (w : World) :
    Calls Tryz.prog 16 #[.string (bstr l), .int .i64 k] w fun e w' => e = .returned (.string (bstr (ptd l k))) ∧ ∃ n, w' = w.drewN n := by
  have HL := Aside0.mk hl
  clear hl
  go_enter Tryz.func16, Tryz.ntmps16
  go_wp2_with fail
  go_loopg [0] (k - l.length) (fun kq v0 w' => PtRel l k kq v0 ∧ w = w')
  case atStart => exact ⟨⟨0, bstr l, rfl, ⟨by simp, by omega, by omega⟩⟩, rfl⟩
  case round =>
    obtain ⟨⟨j, T, rfl, HT⟩, rfl⟩ := hrel
    have hsz : T.size = j + l.length := by rw [HT.out.1, bstr_size]; simp
    obtain ⟨n, hn⟩ : ∃ n, T.size = n := ⟨_, rfl⟩
    by_cases hlt : n < k
    · have hb : decide ((n : Int) < (k : Int)) = true := by simp; omega
      have hb2 : decide (n < k) = true := decide_eq_true hlt
      have hs1 : ((⟨#[48]⟩ : ByteArray).size + T.size : Int) ≤ 9223372036854775807 := by show ((1 : Nat) : Int) + _ ≤ _; have := HL.out; omega
      have hs3 : 1 + n ≤ 9223372036854775807 := by have := HL.out; omega
      have hs4 : ¬ 9223372036854775807 < 1 + n := by omega
      have HS := Aside0.mk hsz
      have HN := Aside0.mk hn
      clear hsz
      go_wp2_with fail
      go_roundg (gk - 1)
      case measure => have := HT.out; have := HS.out; omega
      case rel =>
        refine ⟨⟨j + 1, _, rfl, ⟨by rw [HT.out.1, pad_step], ?_, ?_⟩⟩, rfl⟩
        · have := HT.out; have := HS.out; omega
        · have := HT.out; have := HS.out; omega
    · have hb : decide ((n : Int) < (k : Int)) = false := by simp; omega
      have hb2 : decide (n < k) = false := decide_eq_false hlt
      have HS := Aside0.mk hsz
      have HN := Aside0.mk hn
      obtain ⟨a, ha⟩ : ∃ a, n = a + k := ⟨n - k, by omega⟩
      have hn1 : n ≤ 2000 := by have := HL.out; have := HT.out; omega
      have ha1 : (n : Int) - (k : Int) = (a : Int) := by omega
      have ha2 : (a : Int) ≤ (n : Int) := by omega
      have ha4 : (a : Int) ≤ 2000 := by omega
      have ha3 : ((a : Int)).toNat = a := Int.toNat_natCast a
      obtain ⟨A, hA⟩ : ∃ A, T.extract 0 a = A := ⟨_, rfl⟩
      obtain ⟨B, hB⟩ : ∃ B, T.extract a n = B := ⟨_, rfl⟩
      have hAs : A.size = a := by rw [← hA, ByteArray.size_extract, hn]; omega
      have hBs : B.size = k := by rw [← hB, ByteArray.size_extract, hn]; omega
      have hC : (A ++ (⟨#[46]⟩ : ByteArray)).size = a + 1 := by rw [ByteArray.size_append, hAs]; rfl
      have q1 : ¬ 9223372036854775807 < a + 1 := by omega
      have q2 : ¬ 9223372036854775807 < a + 1 + k := by omega
      have HX := Aside0.mk (And.intro hA (And.intro hB ha))
      clear hsz ha hlt
      go_wp2_with fail
      go_region
      go_wp2_with fail
      go_ret
      refine ⟨?_, 1, rfl⟩
      show Ending.returned (.string (A ++ ⟨#[46]⟩ ++ B)) = _
      have hj : j = k - l.length := by have h1 := HT.out; have h2 := HS.out; have h3 := HX.out.2.2; have h4 := HN.out; omega
      have hT : T = bstr (pad l k) := by rw [HT.out.1, hj]; rfl
      have hpl : (pad l k).length = n := by have h4 := HN.out; rw [hT, bstr_size] at h4; exact h4
      have hA2 : A = bstr ((pad l k).take ((pad l k).length - k)) := by
        rw [← HX.out.1, hT, bstr_ext, List.drop_zero, hpl, show n - k = a by have := HX.out.2.2; omega]
      have hB2 : B = bstr ((pad l k).drop ((pad l k).length - k)) := by
        rw [← HX.out.2.1, hT, bstr_ext, hpl, show n - k = a by have := HX.out.2.2; omega, ← hpl, List.take_length]
      rw [hA2, hB2, show (⟨#[46]⟩ : ByteArray) = bstr [46] from rfl, bstr_append, bstr_append]
      unfold ptd
      simp
end Go.Proofs.YtgpoplfgngiilaaGreatDoor
